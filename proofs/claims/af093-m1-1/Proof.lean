import JvmDerived
import JvmDerived.Pilot.@@N@@Statement
import JvmDerived.Pilot.@@N@@Code
set_option linter.unusedVariables false
set_option linter.unusedSimpArgs false
set_option maxRecDepth 65536
set_option maxHeartbeats 40000000
namespace Jvm.Own
open Jvm Jvm.ClassFile Sem Op Lib Jvm.Free Jvm.Stand Jvm.LawKit Jvm.RoadKit Bundle
section Walk
def Endw (p : Program) (e : Env) (below : List Frame) (T : State) (g : JFrame) (F : Outcome → State → Prop) : Prop :=
  ∃ s₂ o, Steps p.tables e below (T.setTop g) s₂ ∧ s₂.status = .running ∧ Ended s₂ below o ∧ F o s₂
def Core (p : Program) (l : Launch) (e : Env) (R : Room) (s : State) (m : MethodId) (args : Array Value) (below : List Frame) (meth : Method) (c : Code) (bs : ByteArray) (ml : Nat) (ret : Option FieldType) (nm own : String) (Z : State) (a0 : Array Value) (EL : List (String × Nat)) (nw : Bool) (vm : Vm) (T : State) (h : Heap) (k n : Nat) : Prop :=
  (p.tables.exec = Jvm.exec ∧ c.code = bs ∧ c.maxLocals = ml ∧ meth.sig.returnType = ret ∧ meth.locks = false ∧ meth.name = nm ∧ EW Z a0 EL) ∧
  (∃ L, Stand p l e R (s.setVm vm) m args below meth c T L k n ∧ Fr Z.heap.size L) ∧ T.heap = h ∧ Z.Warmed39 vm ∧ vm.findClass own = some m.cls ∧ (∃ k0, s.Since vm k0 ∧ k0 ≤ h.size) ∧ CHr Z EL s.vm s.heap vm h ∧ Ext Z.heap h ∧ (nw = true → s.WarmedH vm ∧ ∀ y, Bk Z EL vm h y → Bk Z EL s.vm s.heap y)
def Fin (s : State) (Z : State) (EL : List (String × Nat)) (nw : Bool) (Q : Option Value → Heap → Prop) (K N : Nat) (o : Outcome) (U : State) : Prop :=
  ∃ v L, o = .returned v ∧ (Q v U.heap ∧ Fr Z.heap.size L ∧ Ext Z.heap U.heap) ∧ (CHr Z EL s.vm s.heap U.vm U.heap ∧ (nw = true → s.WarmedH U.vm ∧ ∀ y, Bk Z EL U.vm U.heap y → Bk Z EL s.vm s.heap y)) ∧ ReturnedEndW s o U L K N
def Met (l : Launch) (Z : State) (EL : List (String × Nat)) (nw : Bool) (y : MethodName) (bs : ByteArray) (ml : Nat) (ret : Option FieldType) (ws : List Jvm.Cond) (rm : Room) (as' : Array Value) (h : Heap) (xs : List Addr) (Q : Option Value → Heap → Prop) : Prop :=
  MetFree l y (head1 (Jvm.Cond.code y bs ml ret :: ws) rm) (fun a U => a = as' ∧ Z.Warmed39 U.vm ∧ U.heap = h ∧ CHv Z EL U.vm h ∧ ∀ x ∈ xs, Safe Z EL U.vm h x) (fun _ _ _ _ _ => True)
    (fun _ U o U' => Fin U Z EL nw Q rm.cells rm.slots o U')
variable {p : Program} {l : Launch} {e : Env} {R : Room} {s : State} {m : MethodId} {args : Array Value} {below : List Frame} {meth : Method} {c : Code}
variable {bs : ByteArray} {ml : Nat} {ret : Option FieldType} {nm own : String} {Z : State} {a0 : Array Value} {EL : List (String × Nat)} {nw : Bool} {vm : Vm} {T T' : State} {h h' : Heap} {k n k' n' : Nat} {F : Outcome → State → Prop} {pc pc' : Nat} {Ls : Array Slot} {rest : List Value} {g g' : JFrame} {Q : Option Value → Heap → Prop}
theorem Endw.st (q : ∀ t, Steps p.tables e below (T'.setTop g') t → Steps p.tables e below (T.setTop g) t) (E : Endw p e below T' g' F) : Endw p e below T g F := by
  obtain ⟨s₂, o, h1, h2⟩ := E; exact ⟨s₂, o, q _ h1, h2⟩
theorem Endw.ste (q : Steps p.tables e below (T.setTop g) (T'.setTop g')) (E : Endw p e below T' g' F) : Endw p e below T g F := Endw.st (fun _ r => q.trans r) E
theorem Endw.eq (q : g = g') (E : Endw p e below T g' F) : Endw p e below T g F := q ▸ E
section Reads
theorem Core.hx (C : Core p l e R s m args below meth c bs ml ret nm own Z a0 EL nw vm T h k n) : p.tables.exec = Jvm.exec := C.1.1
theorem Core.dec (C : Core p l e R s m args below meth c bs ml ret nm own Z a0 EL nw vm T h k n) {r : Except DecodeError (Instr × Nat)} (hd : decode bs pc = r) : decode c.code pc = r := hb C.1.2.1 hd
theorem Core.mlq (C : Core p l e R s m args below meth c bs ml ret nm own Z a0 EL nw vm T h k n) : c.maxLocals = ml := C.1.2.2.1
theorem Core.rtq (C : Core p l e R s m args below meth c bs ml ret nm own Z a0 EL nw vm T h k n) : meth.sig.returnType = ret := C.1.2.2.2.1
theorem Core.locks (C : Core p l e R s m args below meth c bs ml ret nm own Z a0 EL nw vm T h k n) : meth.locks = false := C.1.2.2.2.2.1
theorem Core.nam (C : Core p l e R s m args below meth c bs ml ret nm own Z a0 EL nw vm T h k n) : meth.name = nm := C.1.2.2.2.2.2.1
theorem Core.ew (C : Core p l e R s m args below meth c bs ml ret nm own Z a0 EL nw vm T h k n) : EW Z a0 EL := C.1.2.2.2.2.2.2
theorem Core.here (C : Core p l e R s m args below meth c bs ml ret nm own Z a0 EL nw vm T h k n) : At T m c below := by obtain ⟨-, ⟨_, X, -⟩, -⟩ := C; exact X.here
theorem Core.heq (C : Core p l e R s m args below meth c bs ml ret nm own Z a0 EL nw vm T h k n) : T.heap = h := C.2.2.1
theorem Core.warm (C : Core p l e R s m args below meth c bs ml ret nm own Z a0 EL nw vm T h k n) : Z.Warmed39 vm := C.2.2.2.1
theorem Core.hown (C : Core p l e R s m args below meth c bs ml ret nm own Z a0 EL nw vm T h k n) : vm.findClass own = some m.cls := C.2.2.2.2.1
theorem Core.since (C : Core p l e R s m args below meth c bs ml ret nm own Z a0 EL nw vm T h k n) : ∃ k0, s.Since vm k0 ∧ k0 ≤ h.size := C.2.2.2.2.2.1
theorem Core.chr (C : Core p l e R s m args below meth c bs ml ret nm own Z a0 EL nw vm T h k n) : CHr Z EL s.vm s.heap vm h := C.2.2.2.2.2.2.1
theorem Core.chv (C : Core p l e R s m args below meth c bs ml ret nm own Z a0 EL nw vm T h k n) : CHv Z EL vm h := C.chr.1
theorem Core.old (C : Core p l e R s m args below meth c bs ml ret nm own Z a0 EL nw vm T h k n) : Ext Z.heap h := C.2.2.2.2.2.2.2.1
theorem Core.nwm (C : Core p l e R s m args below meth c bs ml ret nm own Z a0 EL nw vm T h k n) : nw = true → s.WarmedH vm ∧ ∀ y, Bk Z EL vm h y → Bk Z EL s.vm s.heap y := C.2.2.2.2.2.2.2.2
theorem Core.le (C : Core p l e R s m args below meth c bs ml ret nm own Z a0 EL nw vm T h k n) : Z.heap.size ≤ h.size := C.old.1
end Reads
theorem CHr.step (A : CHr Z EL s.vm s.heap vm h) (B : CHr Z EL vm h vm h') : CHr Z EL s.vm s.heap vm h' := A.trans B
theorem old_keep {ws : List Addr} (O : Ext Z.heap h) (K : Keep h h' ws) (q : ∀ x ∈ ws, Z.heap.size ≤ x) : Ext Z.heap h' :=
  ⟨Nat.le_trans O.1 K.1, fun x c r => K.2.1 x c (O.2 x c r) fun z => absurd (Array.getElem?_eq_some_iff.mp r).1 (Nat.not_lt.mpr (q x z))⟩
theorem keep_of_ext (E : Ext h h') : Keep h h' [] := (Keep.refl h []).ext E
theorem Core.on (C : Core p l e R s m args below meth c bs ml ret nm own Z a0 EL nw vm T h k n) {ws : List Addr} {L' : List Loc} (X' : Stand p l e R (s.setVm vm) m args below meth c T' L' k' n') (N : Fr Z.heap.size L') (e' : T'.heap = h') (K : Keep h h' ws) (q : ∀ x ∈ ws, Z.heap.size ≤ x) (S : ∀ x ∈ ws, Safe Z EL vm h x) :
    Core p l e R s m args below meth c bs ml ret nm own Z a0 EL nw vm T' h' k' n' :=
  ⟨C.1, ⟨L', X', N⟩, e', C.warm, C.hown, by obtain ⟨k0, h1, h2⟩ := C.since; exact ⟨k0, h1, Nat.le_trans h2 K.1⟩, CHr.step C.chr (CHr.keep K S C.chv), old_keep C.old K q, fun z => ⟨(C.nwm z).1, fun y b => (C.nwm z).2 y ((CHv.keepStep K S C.chv).2 y b)⟩⟩
theorem Core.same (C : Core p l e R s m args below meth c bs ml ret nm own Z a0 EL nw vm T h k n) {L' : List Loc} (X' : Stand p l e R (s.setVm vm) m args below meth c T' L' k' n') (N : Fr Z.heap.size L') (e' : T'.heap = h) :
    Core p l e R s m args below meth c bs ml ret nm own Z a0 EL nw vm T' h k' n' :=
  C.on (ws := []) X' N e' (Keep.refl _ _) all0 sf0
theorem Core.more (C : Core p l e R s m args below meth c bs ml ret nm own Z a0 EL nw vm T h k n) (hk : k ≤ k') (hn : n ≤ n') : Core p l e R s m args below meth c bs ml ret nm own Z a0 EL nw vm T h k' n' := by
  obtain ⟨h1, ⟨L, X, N⟩, r⟩ := C; exact ⟨h1, ⟨L, X.more hk hn, N⟩, r⟩
/-! ## steps -/
theorem Core.getF (C : Core p l e R s m args below meth c bs ml ret nm own Z a0 EL nw vm T h k n) {O nm' d : String} {ix : Nat} {a : Addr} {v : Value} (w : (Jvm.Cond.fieldLink own ix O nm' d).before a0 Z = true) (f : Fld Z h a O nm' d v) (hd : decode bs pc = .ok (.getfield ix, 3)) (hp : pc + 3 = pc')
    (K : ∀ T', Core p l e R s m args below meth c bs ml ret nm own Z a0 EL nw vm T' h k n → Endw p e below T' (mkF m pc' Ls (v :: rest)) F) : Endw p e below T (mkF m pc Ls (.ref a :: rest)) F := by
  subst hp
  obtain ⟨-, ⟨L, X, N⟩, -⟩ := id C
  obtain ⟨T', X', e', st⟩ := RoadKit.getF X C.hx C.warm C.hown (host := "") (Or.inl w) Via.refl C.heq f (g := mkF m pc Ls (.ref a :: rest)) rfl rfl (C.dec hd)
  exact Endw.st st (K T' (C.same X' N e'))
theorem Core.getS (C : Core p l e R s m args below meth c bs ml ret nm own Z a0 EL nw vm T h k n) {O nm' d : String} {ix : Nat} {v : Value} (w : (Jvm.Cond.fieldLink own ix O nm' d).before a0 Z = true) (f : Sta Z Z.heap O nm' d v) (hd : decode bs pc = .ok (.getstatic ix, 3)) (hp : pc + 3 = pc')
    (K : ∀ T', Core p l e R s m args below meth c bs ml ret nm own Z a0 EL nw vm T' h k n → Endw p e below T' (mkF m pc' Ls (v :: rest)) F) : Endw p e below T (mkF m pc Ls rest) F := by
  subst hp
  obtain ⟨-, ⟨L, X, N⟩, -⟩ := id C
  obtain ⟨T', X', e', st⟩ := RoadKit.getS X C.hx C.warm C.hown (host := "") w Via.refl C.heq (f.ext C.old) (g := mkF m pc Ls rest) rfl (C.dec hd)
  exact Endw.st st (K T' (C.same X' N e'))
theorem Core.putF (C : Core p l e R s m args below meth c bs ml ret nm own Z a0 EL nw vm T h k n) {O nm' d Cl : String} {ix kk : Nat} {a : Addr} {v old : Value} {ty : FieldType} (w : (Jvm.Cond.fieldLink own ix O nm' d).before a0 Z = true) (f : Fld Z h a O nm' d old) (E : Exa Z h a Cl) (la : (Jvm.Cond.lays Cl O nm' d).before a0 Z = true ∨ ((Jvm.Cond.laysFinal Cl O nm' d).before a0 Z = true ∧ own = O ∧ nm = "<init>")) (wi : (Jvm.Cond.instantiable Cl kk).before a0 Z = true)
    (hty : parseFieldDescriptor d = some ty) (hn : narrow ty v = v) (hf : fits ty v = true) (ge : Z.heap.size ≤ a) (sf : Safe Z EL vm h a) (hd : decode bs pc = .ok (.putfield ix, 3)) (hp : pc + 3 = pc')
    (K : ∀ T' h', Core p l e R s m args below meth c bs ml ret nm own Z a0 EL nw vm T' h' k n → Keep h h' [a] → CHr Z EL vm h vm h' → Wr h h' a (RoadKit.slotOf Z O nm' d) v → Endw p e below T' (mkF m pc' Ls rest) F) : Endw p e below T (mkF m pc Ls (v :: .ref a :: rest)) F := by
  subst hp
  obtain ⟨-, ⟨L, X, N⟩, -⟩ := id C
  obtain ⟨T', h', X', e', W, st⟩ := RoadKit.putF X C.hx C.warm C.hown (host := "") (Or.inl w) Via.refl C.heq f E (la.imp id fun q => ⟨q.1, q.2.1, C.nam.trans q.2.2⟩) wi hty hn hf (g := mkF m pc Ls (v :: .ref a :: rest)) rfl rfl (C.dec hd)
  exact Endw.st st (K T' h' (C.on (ws := [a]) X' (N.app fun y hy => by cases List.mem_singleton.mp hy; exact ge) e' (Keep.of_wr W) (allS ge all0) (sfS sf sf0)) (Keep.of_wr W) (CHr.keep (Keep.of_wr W) (sfS sf sf0) C.chv) W)
theorem Core.new (C : Core p l e R s m args below meth c bs ml ret nm own Z a0 EL nw vm T h k n) {Cl : String} {ix nn : Nat} (w : (Jvm.Cond.classLink own ix Cl).before a0 Z = true) (wi : (Jvm.Cond.instantiable Cl nn).before a0 Z = true) (wz : (Jvm.Cond.initialized Cl).before a0 Z = true) (hd : decode bs pc = .ok (.new ix, 3)) (hp : pc + 3 = pc') (hk : k + 1 ≤ R.cells) (hn : n + nn ≤ R.slots)
    (K : ∀ T' h' x, Core p l e R s m args below meth c bs ml ret nm own Z a0 EL nw vm T' h' (k + 1) (n + nn) → Keep h h' [] → CHr Z EL vm h vm h' → h.size ≤ x → Z.heap.size ≤ x → Exa Z h' x Cl → (∀ {O nm d : String} {ty : FieldType}, Laid Z a0 Cl O nm d → parseFieldDescriptor d = some ty → Fld Z h' x O nm d (defaultValue ty)) → Safe Z EL vm h' x → Endw p e below T' (mkF m pc' Ls (.ref x :: rest)) F) : Endw p e below T (mkF m pc Ls rest) F := by
  subst hp
  obtain ⟨-, ⟨L, X, N⟩, -⟩ := id C
  obtain ⟨T', h', X', e', E, A, D, -, st⟩ := RoadKit.newO X C.hx C.warm C.hown w wi wz C.heq (g := mkF m pc Ls rest) rfl (C.dec hd) hk hn
  exact Endw.st st (K T' h' h.size (C.on (ws := []) X' N e' (keep_of_ext E) all0 sf0) (keep_of_ext E) (CHr.keep (keep_of_ext E) sf0 C.chv) (Nat.le_refl _) C.le A D (Safe.ext E C.chv (Safe.new (Nat.le_refl _))))
theorem Core.newA (C : Core p l e R s m args below meth c bs ml ret nm own Z a0 EL nw vm T h k n) {aty : ArrayType} {z : Int32} {cap : Nat} {vs : List Value} (w : (Jvm.Cond.arrayClass (newarray.typeOf aty)).before a0 Z = true) (hd : decode bs pc = .ok (.newarray aty, 2)) (hp : pc + 2 = pc') (hz : ¬ z < 0) (hcap : z.toNatClampNeg ≤ cap) (hb : cap * 8 ≤ 536870912) (hk : k + 1 ≤ R.cells) (hn : n + cap ≤ R.slots) (hvs : vs = List.replicate vs.length (defaultValue (newarray.typeOf aty)))
    (K : ∀ T' h' x kA, Core p l e R s m args below meth c bs ml ret nm own Z a0 EL nw vm T' h' (k + 1) (n + cap) → Keep h h' [] → CHr Z EL vm h vm h' → h.size ≤ x → Z.heap.size ≤ x → Arv Z h' x kA (newarray.typeOf aty) z vs (defaultValue (newarray.typeOf aty)) → Safe Z EL vm h' x → Endw p e below T' (mkF m pc' Ls (.ref x :: rest)) F) : Endw p e below T (mkF m pc Ls (.int z :: rest)) F := by
  subst hp
  obtain ⟨-, ⟨L, X, N⟩, -⟩ := id C
  obtain ⟨T', h', cA, X', e', E, A, st⟩ := RoadKit.newP X C.hx C.warm w C.heq (g := mkF m pc Ls (.int z :: rest)) rfl (C.dec hd) rfl hz hcap hb hk hn
  have q := (Arv.new A hz).pad (vs' := [] ++ List.replicate vs.length (defaultValue (newarray.typeOf aty))) (pad_rep _ _ _)
  rw [List.nil_append, ← hvs] at q
  exact Endw.st st (K T' h' h.size cA (C.on (ws := []) X' N e' (keep_of_ext E) all0 sf0) (keep_of_ext E) (CHr.keep (keep_of_ext E) sf0 C.chv) (Nat.le_refl _) C.le q (Safe.ext E C.chv (Safe.new (Nat.le_refl _))))
theorem Core.len (C : Core p l e R s m args below meth c bs ml ret nm own Z a0 EL nw vm T h k n) {a : Addr} {kA : ClassId} {ty : FieldType} {z : Int32} {vs : List Value} {dv : Value} (A : Arv Z h a kA ty z vs dv) (hd : decode bs pc = .ok (.arraylength, 1)) (hp : pc + 1 = pc')
    (K : Endw p e below T (mkF m pc' Ls (.int z :: rest)) F) : Endw p e below T (mkF m pc Ls (.ref a :: rest)) F := by
  subst hp
  obtain ⟨-, ⟨L, X, N⟩, -⟩ := id C
  obtain ⟨cl, Ar, -, S, hz, -⟩ := A
  refine Endw.st (fun t r => X.arraylength C.hx (by rw [C.heq]; exact Ar.1) (State.isArrayOf_alike C.warm.alike Ar.2.1) (g := mkF m pc Ls (.ref a :: rest)) rfl rfl (C.dec hd) t r) ?_
  rw [len_of S hz]; exact K
theorem Core.caload (C : Core p l e R s m args below meth c bs ml ret nm own Z a0 EL nw vm T h k n) {a : Addr} {kA : ClassId} {z j : Int32} {vs : List Value} {dv v : Value} (A : Arv Z h a kA .char z vs dv) (hj : ¬ j < 0 ∧ j < z) (hv : vs.getD j.toNatClampNeg dv = v) (hd : decode bs pc = .ok (.caload, 1)) (hp : pc + 1 = pc')
    (K : Endw p e below T (mkF m pc' Ls (v :: rest)) F) : Endw p e below T (mkF m pc Ls (.int j :: .ref a :: rest)) F := by
  subst hp
  obtain ⟨-, ⟨L, X, N⟩, -⟩ := id C
  obtain ⟨cl, Ar, -, S, hz, H, -⟩ := A
  exact Endw.st (fun t r => X.caload C.hx (by rw [C.heq]; exact Ar.1) (State.isArrayOf_alike C.warm.alike Ar.2.1) Ar.2.2 (inb_of S hj) (H.at (inb_of S hj) hv) (g := mkF m pc Ls (.int j :: .ref a :: rest)) rfl rfl (C.dec hd) t r) K
theorem Core.baload (C : Core p l e R s m args below meth c bs ml ret nm own Z a0 EL nw vm T h k n) {a : Addr} {kA : ClassId} {z j : Int32} {vs : List Value} {dv v : Value} (A : Arv Z h a kA .byte z vs dv) (hj : ¬ j < 0 ∧ j < z) (hv : vs.getD j.toNatClampNeg dv = v) (hd : decode bs pc = .ok (.baload, 1)) (hp : pc + 1 = pc')
    (K : Endw p e below T (mkF m pc' Ls (v :: rest)) F) : Endw p e below T (mkF m pc Ls (.int j :: .ref a :: rest)) F := by
  subst hp
  obtain ⟨-, ⟨L, X, N⟩, -⟩ := id C
  obtain ⟨cl, Ar, -, S, hz, H, -⟩ := A
  exact Endw.st (fun t r => X.baloadBytes C.hx (by rw [C.heq]; exact Ar.1) (State.isArrayOf_alike C.warm.alike Ar.2.1) Ar.2.2 (inb_of S hj) (H.at (inb_of S hj) hv) (g := mkF m pc Ls (.int j :: .ref a :: rest)) rfl rfl (C.dec hd) t r) K
theorem Core.castore (C : Core p l e R s m args below meth c bs ml ret nm own Z a0 EL nw vm T h k n) {a : Addr} {kA : ClassId} {z j x x' : Int32} {vs vs' : List Value} {dv : Value} (A : Arv Z h a kA .char z vs dv) (hj : ¬ j < 0 ∧ j < z) (i : Nat) (hi : j.toNatClampNeg = i) (hl : i < vs.length) (hx' : nar .char x = x') (ge : Z.heap.size ≤ a) (hvs : vs.set i (.int x') = vs') (hd : decode bs pc = .ok (.castore, 1)) (hp : pc + 1 = pc')
    (K : ∀ T' h', Core p l e R s m args below meth c bs ml ret nm own Z a0 EL nw vm T' h' k n → Keep h h' [a] → CHr Z EL vm h vm h' → Arv Z h' a kA .char z vs' dv → Endw p e below T' (mkF m pc' Ls rest) F) : Endw p e below T (mkF m pc Ls (.int x :: .int j :: .ref a :: rest)) F := by
  subst hp hx' hvs
  obtain ⟨-, ⟨L, X, N⟩, -⟩ := id C
  have sf : Safe Z EL vm h a := Safe.arv C.warm.alike A (by decide)
  obtain ⟨cl, Ar, q1, S, hz, H, G⟩ := A
  obtain ⟨T', h', X', e', W, st⟩ := RoadKit.stC X C.hx C.warm C.heq Ar (inb_of S hj) (g := mkF m pc Ls (.int x :: .int j :: .ref a :: rest)) rfl rfl (C.dec hd)
  exact Endw.st st (K T' h' (C.on (ws := [a]) X' (N.app fun y hy => by cases List.mem_singleton.mp hy; exact ge) e' (Keep.of_wr W) (allS ge all0) (sfS sf sf0)) (Keep.of_wr W) (CHr.keep (Keep.of_wr W) (sfS sf sf0) C.chv) (Arv.set Ar q1 S hz H G (fits_nar_char _) W i hi hl))
theorem Core.bastore (C : Core p l e R s m args below meth c bs ml ret nm own Z a0 EL nw vm T h k n) {a : Addr} {kA : ClassId} {z j x x' : Int32} {vs vs' : List Value} {dv : Value} (A : Arv Z h a kA .byte z vs dv) (hj : ¬ j < 0 ∧ j < z) (i : Nat) (hi : j.toNatClampNeg = i) (hl : i < vs.length) (hx' : nar .byte x = x') (ge : Z.heap.size ≤ a) (sf : Safe Z EL vm h a) (hvs : vs.set i (.int x') = vs') (hd : decode bs pc = .ok (.bastore, 1)) (hp : pc + 1 = pc')
    (K : ∀ T' h', Core p l e R s m args below meth c bs ml ret nm own Z a0 EL nw vm T' h' k n → Keep h h' [a] → CHr Z EL vm h vm h' → Arv Z h' a kA .byte z vs' dv → Endw p e below T' (mkF m pc' Ls rest) F) : Endw p e below T (mkF m pc Ls (.int x :: .int j :: .ref a :: rest)) F := by
  subst hp hx' hvs
  obtain ⟨-, ⟨L, X, N⟩, -⟩ := id C
  obtain ⟨cl, Ar, q1, S, hz, H, G⟩ := A
  obtain ⟨T', h', X', e', W, st⟩ := RoadKit.stB X C.hx C.warm C.heq Ar (inb_of S hj) (g := mkF m pc Ls (.int x :: .int j :: .ref a :: rest)) rfl rfl (C.dec hd)
  exact Endw.st st (K T' h' (C.on (ws := [a]) X' (N.app fun y hy => by cases List.mem_singleton.mp hy; exact ge) e' (Keep.of_wr W) (allS ge all0) (sfS sf sf0)) (Keep.of_wr W) (CHr.keep (Keep.of_wr W) (sfS sf sf0) C.chv) (Arv.set Ar q1 S hz H G (fits_nar_byte _) W i hi hl))
theorem Core.initO (C : Core p l e R s m args below meth c bs ml ret nm own Z a0 EL nw vm T h k n) {ix : Nat} {a : Addr} (w1 : (Jvm.Cond.methodLink own ix Lib.objectInit).before a0 Z = true) (w2 : (Jvm.Cond.instanceMethod Lib.objectInit).before a0 Z = true) (w3 : (Jvm.Cond.code Lib.objectInit ⟨#[0xb1]⟩ 1 none).before a0 Z = true) (hsz : Ls.size = ml) (hd : decode bs pc = .ok (.invokespecial ix, 3)) (hp : pc + 3 = pc') (hf : 1 ≤ R.frames) {W : Nat} (hW : (rest.map fun v => v.category).sum ≤ W) (hl : W + 12 ≤ R.locals)
    (K : ∀ T', Core p l e R s m args below meth c bs ml ret nm own Z a0 EL nw vm T' h k n → Endw p e below T' (mkF m pc' Ls rest) F) : Endw p e below T (mkF m pc Ls (.ref a :: rest)) F := by
  subst hp
  obtain ⟨-, ⟨L, X, N⟩, -⟩ := id C
  obtain ⟨T', X', e', st⟩ := RoadKit.initO X C.hx C.warm C.hown w1 w2 w3 C.heq (g := mkF m pc Ls (.ref a :: rest)) rfl (hsz.trans C.mlq.symm) rfl (C.dec hd) hf (W := W) (by show 2 * 0 + _ ≤ _; omega) hl
  exact Endw.st st (K T' (C.same X' N e'))
/-! ## calls by a contract of ours -/
theorem backOwn {nw' : Bool} {y : MethodName} {bytes : ByteArray} {mx : Nat} {rt : Option FieldType} {rm : Room} {len W : Nat} {as' : Array Value} {xs : List Addr} (hM : Met l Z EL nw' y bytes mx rt [] rm as' h xs Q) (hZ : Z.Warmed39 vm) (wc : (Jvm.Cond.code y bytes mx rt).before a0 Z = true) (wz : (Jvm.Cond.initialized y.cls).before a0 Z = true) (hf : rm.frames + 1 ≤ R.frames) (hl : W + (mx + 11) + rm.locals ≤ R.locals) (hEL : EW Z a0 EL) (H : CHv Z EL vm h) (hs : ∀ x ∈ xs, x < h.size ∧ Safe Z EL vm h x) :
    BackS l R p e below (s.setVm vm) args y len W (fun A a => a = as' ∧ A.U.heap = h ∧ A.cells + rm.cells ≤ R.cells ∧ A.slots + rm.slots ≤ R.slots)
      (fun A _ v B => ∃ L, (Q v B.U.heap ∧ Fr Z.heap.size L ∧ Ext Z.heap B.U.heap) ∧ B.locs = A.locs ++ L ∧ B.cells = A.cells + rm.cells ∧ B.slots = A.slots + rm.slots ∧ CHr Z EL vm h B.U.vm B.U.heap ∧ (nw' = true → (s.setVm vm).WarmedH B.U.vm ∧ ∀ y, Bk Z EL B.U.vm B.U.heap y → Bk Z EL vm h y)) := by
  refine BackS.of_freeW (bytes := bytes) (maxL := mx) (ret := rt) (E := fun _ f o t L i j => i = rm.cells ∧ j = rm.slots ∧ (∃ v, o = .returned v ∧ Q v t.heap ∧ Fr Z.heap.size L ∧ Ext Z.heap t.heap) ∧ CHr Z EL f.vm f.heap t.vm t.heap ∧ (nw' = true → f.WarmedH t.vm ∧ ∀ y, Bk Z EL t.vm t.heap y → Bk Z EL f.vm f.heap y)) hM hf hl ?_ ?_ (fun _ _ _ _ _ _ _ _ _ => trivial) ?_ ?_
  · intro m' meth' c' A a Y hp
    have hU : Z.Warmed39 A.U.vm := wtrans (s := s.setVm vm) hZ Y.warmed
    refine ⟨?_, mv hU wc, mv hU wz, hp.2.2.1, hp.2.2.2⟩
    show (Jvm.Cond.and _ .tt).before a A.U = true
    rw [Cond.before_and, mv hU wc]; rfl
  · intro m' meth' c' A a g' mk Y hp
    have q := CHv.at Y hZ hEL H
    exact ⟨hp.1, wtrans (s := s.setVm vm) hZ Y.warmed, hp.2.1, q.1, fun x hx => q.safe (hs x hx).1 (hs x hx).2⟩
  · intro a f o t ⟨v, L, h1, h2, h3, h4⟩
    exact ⟨L, _, _, h4, rfl, rfl, ⟨v, h1, h2⟩, h3.1, h3.2⟩
  · intro m' meth' c' A a g' mk v t L i j Y hp _ _ q
    obtain ⟨rfl, rfl, ⟨v', e1, e2⟩, e3, e5⟩ := q
    cases e1
    refine ⟨L, e2, rfl, rfl, rfl, (CHv.at Y hZ hEL H).trans ?_, fun z => ⟨State.WarmedH.trans Y.warmed (e5 z).1, fun y' b => ?_⟩⟩
    · have e4 : CHr Z EL A.U.vm A.U.heap t.vm t.heap := e3
      rw [hp.2.1] at e4; exact e4
    · have b1 : Bk Z EL A.U.vm A.U.heap y' := (e5 z).2 y' b
      rw [hp.2.1] at b1
      rcases (CHv.at Y hZ hEL H).2.2 y' b1 with q | q
      · exact q
      · obtain ⟨c0, hc0⟩ := Bk.there b1; exact absurd (Array.getElem?_eq_some_iff.mp hc0).1 (Nat.not_lt.mpr q)
theorem Core.behind (C : Core p l e R s m args below meth c bs ml ret nm own Z a0 EL nw vm T h k n) {B : Pt} {L L' : List Loc} (X' : Stand p l e R ((s.setVm vm).setVm B.U.vm) m args below meth c B.U B.locs B.cells B.slots) (h2 : (s.setVm vm).Since B.U.vm B.U.heap.size) (N : Fr Z.heap.size L) (N' : Fr Z.heap.size L') (O : Ext Z.heap B.U.heap) (e1 : B.locs = L ++ L') (e2 : B.cells = k') (e3 : B.slots = n') (A : CHr Z EL vm h B.U.vm B.U.heap) (M : nw = true → (s.setVm vm).WarmedH B.U.vm ∧ ∀ y, Bk Z EL B.U.vm B.U.heap y → Bk Z EL vm h y) :
    Core p l e R s m args below meth c bs ml ret nm own Z a0 EL nw B.U.vm B.U B.U.heap k' n' := by
  subst e2 e3
  obtain ⟨k0, hS, hk⟩ := C.since
  obtain ⟨r1, r2, r3, r4⟩ := rebS hS hk X' h2 A.2.1 C.warm C.hown
  exact ⟨C.1, ⟨_, r1, e1 ▸ N.app N'⟩, rfl, r3, r4, ⟨_, r2, Nat.le_refl _⟩, C.chr.trans A, O, fun z => ⟨State.WarmedH.trans (C.nwm z).1 (M z).1, fun y b => (C.nwm z).2 y ((M z).2 y b)⟩⟩
theorem Core.special (C : Core p l e R s m args below meth c bs ml ret nm own Z a0 EL nw vm T h k n) {nw' : Bool} {y : MethodName} {ix : Nat} {bytes : ByteArray} {mx : Nat} {rm : Room} {xs : List Addr} {W : Nat} {a : Addr} {argsL st : List Value} {as' : Array Value} (hy1 : y.name = "<init>")
    (w1 : (Jvm.Cond.methodLink own ix y).before a0 Z = true) (w2 : (Jvm.Cond.instanceMethod y).before a0 Z = true) (w3 : (Jvm.Cond.code y bytes mx none).before a0 Z = true) (w4 : (Jvm.Cond.initialized y.cls).before a0 Z = true) (hy : y.cls ≠ "java/lang/invoke/MethodHandle" ∧ y.cls ≠ "java/lang/invoke/VarHandle")
    (hM : Met l Z EL nw' y bytes mx none [] rm as' h xs Q) (hnn : nw = true → nw' = true) (has : as' = (.ref a :: argsL).toArray) (hs : ∀ x ∈ xs, x < h.size ∧ Safe Z EL vm h x) (hf : rm.frames + 1 ≤ R.frames) (hl : W + (mx + 11) + rm.locals ≤ R.locals) (hk : k + rm.cells ≤ R.cells) (hn : n + rm.slots ≤ R.slots)
    (hlen : ∀ sig, parseMethodDescriptor y.desc = some sig → argsL.length = sig.parameters.length) (hst : st = argsL.reverse ++ .ref a :: rest) (hW : (rest.map fun v => v.category).sum ≤ W) (hsz : Ls.size = ml) (hd : decode bs pc = .ok (.invokespecial ix, 3)) (hp : pc + 3 = pc')
    (K : ∀ vm' T' h' v, Core p l e R s m args below meth c bs ml ret nm own Z a0 EL nw vm' T' h' (k + rm.cells) (n + rm.slots) → CHr Z EL vm h vm' h' → (nw' = true → ∀ y, Bk Z EL vm' h' y → Bk Z EL vm h y) → Q v h' → Endw p e below T' (mkF m pc' Ls (v.toList ++ rest)) F) : Endw p e below T (mkF m pc Ls st) F := by
  subst hp has
  obtain ⟨-, ⟨L, X, N⟩, -⟩ := id C
  obtain ⟨v, vm₁, B, -, X', h2, -, ⟨L', ⟨q1, q2, q3⟩, e1, e2, e3, A, M⟩, st'⟩ := X.specialBackS C.hx (y := y) hy1 C.hown (mvT C.warm w1) (mvT C.warm w2) (mvT C.warm w3) hy (backOwn (W := W) hM C.warm w3 w4 hf hl C.ew C.chv hs) (g := mkF m pc Ls st) rfl (hsz.trans C.mlq.symm) (Steps.refl _) (a := a) (argsL := argsL) (rest := rest) hlen hst (by show 2 * 0 + _ ≤ _; omega) (C.dec hd) (fun _ _ => ⟨rfl, C.heq, hk, hn⟩)
  exact Endw.ste st' (K _ _ _ v (C.behind X' h2 N q2 q3 e1 e2 e3 A (fun z => M (hnn z))) A (fun z => (M z).2) q1)
theorem Core.static (C : Core p l e R s m args below meth c bs ml ret nm own Z a0 EL nw vm T h k n) {nw' : Bool} {y : MethodName} {ix : Nat} {bytes : ByteArray} {mx : Nat} {rt : Option FieldType} {rm : Room} {xs : List Addr} {W : Nat} {argsL st : List Value} {as' : Array Value}
    (w1 : (Jvm.Cond.methodLink own ix y).before a0 Z = true) (w2 : (Jvm.Cond.static y).before a0 Z = true) (w3 : (Jvm.Cond.code y bytes mx rt).before a0 Z = true) (w4 : (Jvm.Cond.initialized y.cls).before a0 Z = true) (hy : y.cls ≠ "java/lang/invoke/MethodHandle" ∧ y.cls ≠ "java/lang/invoke/VarHandle")
    (hM : Met l Z EL nw' y bytes mx rt [] rm as' h xs Q) (hnn : nw = true → nw' = true) (has : as' = argsL.toArray) (hs : ∀ x ∈ xs, x < h.size ∧ Safe Z EL vm h x) (hf : rm.frames + 1 ≤ R.frames) (hl : W + (mx + 11) + rm.locals ≤ R.locals) (hk : k + rm.cells ≤ R.cells) (hn : n + rm.slots ≤ R.slots)
    (hlen : ∀ sig, parseMethodDescriptor y.desc = some sig → argsL.length = sig.parameters.length) (hst : st = argsL.reverse ++ rest) (hW : (rest.map fun v => v.category).sum ≤ W) (hsz : Ls.size = ml) (hd : decode bs pc = .ok (.invokestatic ix, 3)) (hp : pc + 3 = pc')
    (K : ∀ vm' T' h' v, Core p l e R s m args below meth c bs ml ret nm own Z a0 EL nw vm' T' h' (k + rm.cells) (n + rm.slots) → CHr Z EL vm h vm' h' → (nw' = true → ∀ y, Bk Z EL vm' h' y → Bk Z EL vm h y) → Q v h' → Endw p e below T' (mkF m pc' Ls (v.toList ++ rest)) F) : Endw p e below T (mkF m pc Ls st) F := by
  subst hp has
  obtain ⟨-, ⟨L, X, N⟩, -⟩ := id C
  obtain ⟨v, vm₁, B, -, X', h2, -, ⟨L', ⟨q1, q2, q3⟩, e1, e2, e3, A, M⟩, st'⟩ := RoadKit.callSS X C.hx (y := y) C.hown (mvT C.warm w1) (mvT C.warm w2) (mvT C.warm w4) (mvT C.warm w3) hy (backOwn (W := W) hM C.warm w3 w4 hf hl C.ew C.chv hs) (g := mkF m pc Ls st) rfl (hsz.trans C.mlq.symm) (argsL := argsL) (rest := rest) hlen hst (by show 2 * 0 + _ ≤ _; omega) (C.dec hd) (fun _ _ => ⟨rfl, C.heq, hk, hn⟩)
  exact Endw.ste st' (K _ _ _ v (C.behind X' h2 N q2 q3 e1 e2 e3 A (fun z => M (hnn z))) A (fun z => (M z).2) q1)
theorem Core.virtual (C : Core p l e R s m args below meth c bs ml ret nm own Z a0 EL nw vm T h k n) {nw' : Bool} {y z : MethodName} {Cl : String} {ix : Nat} {bytes : ByteArray} {mx : Nat} {rt : Option FieldType} {rm : Room} {xs : List Addr} {W : Nat} {a : Addr} {argsL st : List Value} {as' : Array Value}
    (w1 : (Jvm.Cond.methodLink own ix y).before a0 Z = true) (w2 : (Jvm.Cond.declares y).before a0 Z = true) (hnf : ∀ U : State, Z.Warmed39 U.vm → NotFace U y) (w5 : (Jvm.Cond.selects Cl y z).before a0 Z = true) (w6 : (Jvm.Cond.instanceMethod z).before a0 Z = true) (w3 : (Jvm.Cond.code z bytes mx rt).before a0 Z = true) (w4 : (Jvm.Cond.initialized z.cls).before a0 Z = true) (hy : y.cls ≠ "java/lang/invoke/MethodHandle" ∧ y.cls ≠ "java/lang/invoke/VarHandle")
    (hM : Met l Z EL nw' z bytes mx rt [] rm as' h xs Q) (hnn : nw = true → nw' = true) (has : as' = (.ref a :: argsL).toArray) (E : Exa Z h a Cl) (hs : ∀ x ∈ xs, x < h.size ∧ Safe Z EL vm h x) (hf : rm.frames + 1 ≤ R.frames) (hl : W + (mx + 11) + rm.locals ≤ R.locals) (hk : k + rm.cells ≤ R.cells) (hn : n + rm.slots ≤ R.slots)
    (hlen : ∀ sig, parseMethodDescriptor y.desc = some sig → argsL.length = sig.parameters.length) (hst : st = argsL.reverse ++ .ref a :: rest) (hW : (rest.map fun v => v.category).sum ≤ W) (hsz : Ls.size = ml) (hd : decode bs pc = .ok (.invokevirtual ix, 3)) (hp : pc + 3 = pc')
    (K : ∀ vm' T' h' v, Core p l e R s m args below meth c bs ml ret nm own Z a0 EL nw vm' T' h' (k + rm.cells) (n + rm.slots) → CHr Z EL vm h vm' h' → (nw' = true → ∀ y, Bk Z EL vm' h' y → Bk Z EL vm h y) → Q v h' → Endw p e below T' (mkF m pc' Ls (v.toList ++ rest)) F) : Endw p e below T (mkF m pc Ls st) F := by
  subst hp has
  obtain ⟨-, ⟨L, X, N⟩, -⟩ := id C
  obtain ⟨cq, kq, qa, qb, qc⟩ := isOf (s := s.setVm vm) C.warm C.heq E
  obtain ⟨v, vm₁, B, -, X', h2, -, ⟨L', ⟨q1, q2, q3⟩, e1, e2, e3, A, M⟩, st'⟩ := X.virtualBackS C.hx (y := y) (z := z) C.hown (mvT C.warm w1) (mvT C.warm w2) (hnf _ (show Z.Warmed39 (s.setVm vm).vm from C.warm)) (mvT C.warm w5) (mvT C.warm w6) hy (backOwn (W := W) hM C.warm w3 w4 hf hl C.ew C.chv hs) qa qc (g := mkF m pc Ls st) rfl (hsz.trans C.mlq.symm) (Steps.refl _) (argsL := argsL) (rest := rest) hlen hst (by show 2 * 0 + _ ≤ _; omega) (C.dec hd) (fun _ _ => ⟨rfl, C.heq, hk, hn⟩)
  exact Endw.ste st' (K _ _ _ v (C.behind X' h2 N q2 q3 e1 e2 e3 A (fun z => M (hnn z))) A (fun z => (M z).2) q1)
/-! ## calls by a law of the library's (it interns nothing) -/
theorem Core.behindF (C : Core p l e R s m args below meth c bs ml ret nm own Z a0 EL nw vm T h k n) {B : Pt} {L L' : List Loc} {ws : List Addr} (X' : Stand p l e R (s.setVm vm) m args below meth c B.U B.locs B.cells B.slots) (N : Fr Z.heap.size L) (N' : Fr Z.heap.size L') (K : Keep h B.U.heap ws) (ge : ∀ x ∈ ws, Z.heap.size ≤ x) (S : ∀ x ∈ ws, Safe Z EL vm h x) (e1 : B.locs = L ++ L') (e2 : B.cells = k') (e3 : B.slots = n') :
    Core p l e R s m args below meth c bs ml ret nm own Z a0 EL nw vm B.U B.U.heap k' n' := by
  subst e2 e3
  exact C.on X' (e1 ▸ N.app N') rfl K ge S
theorem Core.specialF (C : Core p l e R s m args below meth c bs ml ret nm own Z a0 EL nw vm T h k n) {y : MethodName} {ix : Nat} {bytes : ByteArray} {mx ck cn : Nat} {ws : List Addr} {W : Nat} {a : Addr} {argsL st : List Value} {as' : Array Value} {Qf : Option Value → Heap → List Loc → Prop} (hy1 : y.name = "<init>")
    (w1 : (Jvm.Cond.methodLink own ix y).before a0 Z = true) (w2 : (Jvm.Cond.instanceMethod y).before a0 Z = true) (w3 : (Jvm.Cond.code y bytes mx none).before a0 Z = true) (hy : y.cls ≠ "java/lang/invoke/MethodHandle" ∧ y.cls ≠ "java/lang/invoke/VarHandle")
    (hK : Back l R p e below (s.setVm vm) args y 3 W (fun P a => a = as' ∧ P.U.heap = h ∧ P.cells + ck ≤ R.cells ∧ P.slots + cn ≤ R.slots) (fun P _ v B => ∃ L, Qf v B.U.heap L ∧ B.locs = P.locs ++ L ∧ B.cells = P.cells + ck ∧ B.slots = P.slots + cn))
    (hQ : ∀ v h' L, Qf v h' L → Fr Z.heap.size L ∧ Keep h h' ws) (ge : ∀ x ∈ ws, Z.heap.size ≤ x) (S : ∀ x ∈ ws, Safe Z EL vm h x) (has : as' = (.ref a :: argsL).toArray) (hk : k + ck ≤ R.cells) (hn : n + cn ≤ R.slots)
    (hlen : ∀ sig, parseMethodDescriptor y.desc = some sig → argsL.length = sig.parameters.length) (hst : st = argsL.reverse ++ .ref a :: rest) (hW : (rest.map fun v => v.category).sum ≤ W) (hsz : Ls.size = ml) (hd : decode bs pc = .ok (.invokespecial ix, 3)) (hp : pc + 3 = pc')
    (K : ∀ T' h' v, Core p l e R s m args below meth c bs ml ret nm own Z a0 EL nw vm T' h' (k + ck) (n + cn) → Keep h h' ws → CHr Z EL vm h vm h' → (∃ L, Qf v h' L) → Endw p e below T' (mkF m pc' Ls (v.toList ++ rest)) F) : Endw p e below T (mkF m pc Ls st) F := by
  subst hp has
  obtain ⟨-, ⟨L, X, N⟩, -⟩ := id C
  obtain ⟨v, vm₁, B, -, X', ⟨L', q1, e1, e2, e3⟩, st'⟩ := X.specialBack C.hx (y := y) hy1 C.hown (mvT C.warm w1) (mvT C.warm w2) (mvT C.warm w3) hy hK (g := mkF m pc Ls st) rfl (hsz.trans C.mlq.symm) (Steps.refl _) (a := a) (argsL := argsL) (rest := rest) hlen hst (by show 2 * 0 + _ ≤ _; omega) (C.dec hd) (fun _ _ => ⟨rfl, C.heq, hk, hn⟩)
  obtain ⟨r1, r2⟩ := hQ _ _ _ q1
  exact Endw.ste st' (K _ _ v (C.behindF X' N r1 r2 ge S e1 e2 e3) r2 (CHr.keep r2 S C.chv) ⟨_, q1⟩)
theorem Met.of {y : MethodName} {bytes : ByteArray} {mx : Nat} {rt : Option FieldType} {ws : List Jvm.Cond} {rm : Room} {as' : Array Value} {xs : List Addr} (hy : plainFor y = true) (hEL : EW Z a0 EL) (O : Ext Z.heap h)
    (body : ∀ p e s m below meth c T, Core p l e rm s m as' below meth c bytes mx rt y.name y.cls Z a0 EL nw s.vm T h 0 0 → (∀ x ∈ xs, Safe Z EL s.vm h x) → Endw p e below T (entryFrame m as' mx) (Fin s Z EL nw Q rm.cells rm.slots)) :
    Met l Z EL nw y bytes mx rt ws rm as' h xs Q := by
  refine MetFree.of_bodySF hy hisR ?_
  intro p e s m args below meth c s₁ Bd hml hP hK
  obtain ⟨rfl, hZ, hh, hC, hS⟩ := hP
  have X0 : Stand p l e rm s m args below meth c s₁ [] 0 0 := Stand.of_body Bd
  have e0 : s₁.heap = h := by rw [← hh, Bd.state]; rfl
  have hC' : CHv Z EL s.vm s.heap := by rw [hh]; exact hC
  refine body p e s m below meth c s₁ ⟨⟨Bd.exec, Bd.bytes, hml, Bd.returns, BodyLoose.notSynchronized Bd, (name_of_methodNamed Bd.named Bd.method).1, hEL⟩, ⟨[], X0, Fr.nil _⟩, e0, hZ, findClass_of_methodNamed Bd.named, ⟨s.heap.size, (State.WarmedH.refl s).since _, by rw [hh]; exact Nat.le_refl _⟩, ?_, O, fun _ => ⟨State.WarmedH.refl s, fun y b => by rw [hh]; exact b⟩⟩ hS
  rw [← hh]; exact CHr.refl hC'
theorem Core.leave (C : Core p l e R s m args below meth c bs ml ret nm own Z a0 EL nw vm T h k n) {K N : Nat} {v : Option Value} (hv : ret = none → v = none) (hk : k ≤ K) (hn : n ≤ N) (q : Q v h) (st : ∀ {L : List Loc} {vm' : Vm}, Stand p l e R (s.setVm vm') m args below meth c T L k n → ∀ fs, (∀ (f : JFrame) (acts : List Action), f.method = m → f.locked = none → f.entered = [] → (doReturn e (T.setTop f) acts v).1 = T.setFrames fs) → Steps p.tables e below (T.setTop g) (T.setFrames fs)) :
    Endw p e below T g (Fin s Z EL nw Q K N) := by
  obtain ⟨-, ⟨L, X, NL⟩, -⟩ := id C
  obtain ⟨k0, hS, hk0⟩ := C.since
  have hk1 : k0 ≤ T.heap.size := by rw [C.heq]; exact hk0
  obtain ⟨fs, h1, h2, h3, h4, h5, h6, h7⟩ := X.leaveW hS hk1 (v := v) (fun hr => hv (C.rtq.symm.trans hr)) C.locks
  have e1 : (T.setFrames fs).heap = h := C.heq
  refine ⟨_, _, st X fs h1, h2, h3, v, L, rfl, ⟨by rw [e1]; exact q, NL, by rw [e1]; exact C.old⟩, ⟨?_, fun z => ⟨State.WarmedH.trans (C.nwm z).1 X.warmed, fun y b => ?_⟩⟩, h4, h5, h6, h7.mono hk hn⟩
  · have A := C.chr.trans (CHv.at X C.warm C.ew C.chv)
    rw [e1]; exact A
  · rw [e1] at b
    have b1 : Bk Z EL T.vm h y := b
    rcases (CHv.at X C.warm C.ew C.chv).2.2 y b1 with q1 | q1
    · exact (C.nwm z).2 y q1
    · obtain ⟨c0, hc0⟩ := Bk.there b1; exact absurd (Array.getElem?_eq_some_iff.mp hc0).1 (Nat.not_lt.mpr q1)
theorem Core.retV (C : Core p l e R s m args below meth c bs ml none nm own Z a0 EL nw vm T h k n) {K N : Nat} (hd : decode bs pc = .ok (.return_, 1)) (hk : k ≤ K) (hn : n ≤ N) (q : Q none h) : Endw p e below T (mkF m pc Ls []) (Fin s Z EL nw Q K N) :=
  C.leave (fun _ => rfl) hk hn q fun X fs hl => X.returnOut C.hx C.rtq (C.dec hd) hl
theorem Core.retX (C : Core p l e R s m args below meth c bs ml ret nm own Z a0 EL nw vm T h k n) {K N : Nat} {t : FieldType} {w : Value} {i : Instr} (hr : ret = some t) (hn' : narrow t w = w) (hi : (i = .ireturn ∧ (t = .int ∨ t = .boolean ∨ t = .byte ∨ t = .char ∨ t = .short) ∧ ∃ z, w = .int z) ∨ (i = .lreturn ∧ t = .long ∧ ∃ z, w = .long z) ∨ (i = .dreturn ∧ t = .double ∧ ∃ z, w = .double z) ∨ (i = .freturn ∧ t = .float ∧ ∃ z, w = .float z) ∨ (i = .areturn ∧ t.isReference = true ∧ w.isRef = true))
    (hd : decode bs pc = .ok (i, 1)) (hk : k ≤ K) (hn : n ≤ N) (q : Q (some w) h) : Endw p e below T (mkF m pc Ls (w :: rest)) (Fin s Z EL nw Q K N) :=
  C.leave (fun z => by subst hr; cases z) hk hn q fun X fs hl => RoadKit.retOut X C.hx (C.rtq.trans hr) hn' hi (C.dec hd) hl
theorem Core.retI (C : Core p l e R s m args below meth c bs ml ret nm own Z a0 EL nw vm T h k n) {K N : Nat} {t : FieldType} {z : Int32} (hr : ret = some t) (ht : t = .int ∨ t = .boolean ∨ t = .byte ∨ t = .char ∨ t = .short) (hn' : narrow t (.int z) = .int z) (hd : decode bs pc = .ok (.ireturn, 1)) (hk : k ≤ K) (hn : n ≤ N) (q : Q (some (.int z)) h) : Endw p e below T (mkF m pc Ls (.int z :: rest)) (Fin s Z EL nw Q K N) :=
  C.retX hr hn' (Or.inl ⟨rfl, ht, _, rfl⟩) hd hk hn q
theorem Core.retA (C : Core p l e R s m args below meth c bs ml ret nm own Z a0 EL nw vm T h k n) {K N : Nat} {t : FieldType} {w : Value} (hr : ret = some t) (ht : t.isReference = true) (hw : w.isRef = true) (hn' : narrow t w = w) (hd : decode bs pc = .ok (.areturn, 1)) (hk : k ≤ K) (hn : n ≤ N) (q : Q (some w) h) : Endw p e below T (mkF m pc Ls (w :: rest)) (Fin s Z EL nw Q K N) :=
  C.retX hr hn' (Or.inr (Or.inr (Or.inr (Or.inr ⟨rfl, ht, hw⟩)))) hd hk hn q
/-! ## String constants -/
theorem Core.ldcC (C : Core p l e R s m args below meth c bs ml ret nm own Z a0 EL nw vm T h k n) {text : String} {ix N : Nat} {vs : List Value} {z : Int32} (w : (Jvm.Cond.stringLink own ix text).before a0 Z = true) (wS : ∀ a ∈ Bundle.stringAtoms, a.before a0 Z = true) (hmem : (own, ix) ∈ EL) (ht : (∀ c ∈ text.toList, c.toNat < 256) ∧ text.toList.map (fun c => Value.int (Jvm.Lit.byteI c.toNat.toUInt16)) = vs) (hz : ¬ z < 0) (hl : z.toNatClampNeg = vs.length)
    (hN : 4 * text.toList.length ≤ N) (hbig : N ≤ 536870912) (hk : k + 2 ≤ R.cells) (hn : n + (N + 4) ≤ R.slots) (hd : decode bs pc = .ok (.ldc ix, 2)) (hp : pc + 2 = pc') (hnw : nw = false)
    (K : ∀ vm' T' h' a b kA, Core p l e R s m args below meth c bs ml ret nm own Z a0 EL nw vm' T' h' (k + 2) (n + (N + 4)) → Keep h h' [] → CHr Z EL vm h vm' h' → Exa Z h' a "java/lang/String" → Fld Z h' a "java/lang/String" "coder" "B" (.int 0) → Fld Z h' a "java/lang/String" "value" "[B" (.ref b) → Arv Z h' b kA .byte z vs (.int 0) → (∀ x, Safe Z EL vm' h' x → x ≠ a ∧ x ≠ b) → Endw p e below T' (mkF m pc' Ls (.ref a :: rest)) F) : Endw p e below T (mkF m pc Ls rest) F := by
  subst hp
  obtain ⟨-, ⟨L, X, NL⟩, -⟩ := id C
  obtain ⟨k0, hS, hk0⟩ := C.since
  obtain ⟨a, T', h', k1, b, kA, X', e', E, hS', hk1, hZ', hown', r1, r2, r3, r4, -, -, A, -, r5, st⟩ := RoadKit.ldcCH X C.hx C.warm C.hown w wS C.heq hS hk0 C.ew hmem C.chv ht hz hl (g := mkF m pc Ls rest) rfl (C.dec hd) hN hbig hk hn
  exact Endw.st st (K T'.vm T' h' a b kA ⟨C.1, ⟨L, X', NL⟩, e', hZ', hown', ⟨k1, hS', hk1⟩, C.chr.trans A, old_keep C.old (keep_of_ext E) all0, fun z => by rw [hnw] at z; cases z⟩ (keep_of_ext E) A r1 r2 r3 r4 r5)
end Walk
end Jvm.Own
namespace Jvm.Own
open Jvm Jvm.ClassFile Sem Op Lib Jvm.Free Jvm.Stand Jvm.LawKit Jvm.RoadKit Bundle
section Help
variable {p : Program} {l : Launch} {e : Env} {R : Room} {s : State} {m : MethodId} {args : Array Value} {below : List Frame} {meth : Method} {c : Code}
variable {bs : ByteArray} {ml : Nat} {ret : Option FieldType} {nm own : String} {Z : State} {a0 : Array Value} {EL : List (String × Nat)} {nw : Bool} {vm : Vm} {T T' : State} {h h' : Heap} {k n : Nat} {g : JFrame} {rest : List Value}
theorem own_toInt {y : Int32} (h : y.toBitVec.toNat < 2147483648) : y.toInt = (y.toBitVec.toNat : Int) := by
  have : y.toInt = y.toBitVec.toInt := rfl
  rw [this, BitVec.toInt_eq_toNat_cond, if_pos (by omega)]
theorem own_and_nat (x m : Int32) : (x &&& m).toBitVec.toNat = x.toBitVec.toNat &&& m.toBitVec.toNat := by simp [Int32.toBitVec_and, BitVec.toNat_and]
theorem own_cI (x : Int32) : (Value.int x).category = 1 := rfl
theorem own_cR (x : Addr) : (Value.ref x).category = 1 := rfl
theorem own_cN : Value.null.category = 1 := rfl
theorem own_cJ (x : Int64) : (Value.long x).category = 2 := rfl
theorem own_cD (x : UInt64) : (Value.double x).category = 2 := rfl
def B8 (c : Int32) : Prop := ¬ c < 0 ∧ ¬ (255 : Int32) < c
theorem own_mask255 (x : Int32) : B8 (x &&& 255) := by
  have e : (x &&& 255).toBitVec.toNat ≤ 255 := by rw [own_and_nat]; exact Nat.and_le_right
  have q := own_toInt (y := x &&& 255) (by omega)
  refine ⟨?_, ?_⟩ <;> rw [Int32.lt_iff_toInt_lt, q]
  · show ¬ (_ < (0 : Int)); omega
  · show ¬ ((255 : Int) < _); omega
theorem own_b16 {c : Int32} (h : B8 c) : ¬ c < 0 ∧ ¬ (65535 : Int32) < c := by
  refine ⟨h.1, fun q => h.2 ?_⟩
  rw [Int32.lt_iff_toInt_lt] at q ⊢
  have e1 : (65535 : Int32).toInt = 65535 := rfl
  have e2 : (255 : Int32).toInt = 255 := rfl
  omega
theorem own_c0 {P : Int32 → Prop} : ∀ c ∈ ([] : List Int32), P c := fun _ q => nomatch q
theorem own_cS {P : Int32 → Prop} {y : Int32} {L : List Int32} (q : P y) (r : ∀ c ∈ L, P c) : ∀ c ∈ y :: L, P c := fun x z => (List.mem_cons.mp z).elim (fun u => u ▸ q) (r x)
theorem own_nar_ref {v : Value} {t : FieldType} (h : v.isRef = true) (ht : t.isReference = true := by rfl) : narrow t v = v := by
  cases v <;> cases t <;> first | rfl | (cases h; done) | (cases ht; done)
theorem own_fits_ref {v : Value} {t : FieldType} (h : v.isRef = true) (ht : t.isReference = true := by rfl) : fits t v = true := by
  cases v <;> cases t <;> first | rfl | (cases h; done) | (cases ht; done)
theorem own_nar_byte {x : Int32} : nar .byte (x.toInt8.toInt32) = x.toInt8.toInt32 := by
  show (x.toInt8.toInt32).toInt8.toInt32 = _
  simp
def bys (cs : List Int32) : List Value := (cs.map fun c => c.toInt8.toInt32).map Value.int
def Str (Z : State) (h : Heap) (a b : Addr) (kb : ClassId) (cs : List Int32) : Prop :=
  Exa Z h a "java/lang/String" ∧ Fld Z h a "java/lang/String" "coder" "B" (.int 0) ∧ Fld Z h a "java/lang/String" "value" "[B" (.ref b) ∧
    Arv Z h b kb .byte (Int32.ofNat cs.length) (bys cs) (.int 0) ∧ (∀ c ∈ cs, B8 c) ∧ cs.length ≤ 4000
theorem Str.keep {a b : Addr} {kb : ClassId} {cs : List Int32} {ws : List Addr} (S : Str Z h a b kb cs) (K : Keep h h' ws) (q1 : a ∉ ws) (q2 : b ∉ ws) : Str Z h' a b kb cs :=
  ⟨S.1.keep K, S.2.1.keep K q1, S.2.2.1.keep K q1, S.2.2.2.1.keep K q2, S.2.2.2.2⟩
variable {F : Outcome → State → Prop} {pc pc' : Nat} {Ls : Array Slot}
theorem Core.instY (C : Core p l e R s m args below meth c bs ml ret nm own Z a0 EL nw vm T h k n) {K : String} {ix : Nat} {a : Addr} (w : (Jvm.Cond.classLink own ix K).before a0 Z = true) (f : Ins Z h a K true) (hd : decode bs pc = .ok (.instanceof ix, 3)) (hp : pc + 3 = pc')
    (Kk : ∀ T', Core p l e R s m args below meth c bs ml ret nm own Z a0 EL nw vm T' h k n → Endw p e below T' (mkF m pc' Ls (.int 1 :: rest)) F) : Endw p e below T (mkF m pc Ls (.ref a :: rest)) F := by
  subst hp
  obtain ⟨-, ⟨L, X, N⟩, -⟩ := id C
  obtain ⟨T', X', e', st⟩ := RoadKit.instY X C.hx C.warm C.hown w C.heq f (g := mkF m pc Ls (.ref a :: rest)) rfl rfl (C.dec hd)
  exact Endw.st st (Kk T' (C.same X' N e'))
theorem Core.castY (C : Core p l e R s m args below meth c bs ml ret nm own Z a0 EL nw vm T h k n) {K : String} {ix : Nat} {a : Addr} (w : (Jvm.Cond.classLink own ix K).before a0 Z = true) (f : Ins Z h a K true) (hd : decode bs pc = .ok (.checkcast ix, 3)) (hp : pc + 3 = pc')
    (Kk : ∀ T', Core p l e R s m args below meth c bs ml ret nm own Z a0 EL nw vm T' h k n → Endw p e below T' (mkF m pc' Ls (.ref a :: rest)) F) : Endw p e below T (mkF m pc Ls (.ref a :: rest)) F := by
  subst hp
  obtain ⟨-, ⟨L, X, N⟩, -⟩ := id C
  obtain ⟨T', X', e', st⟩ := RoadKit.castY X C.hx C.warm C.hown w C.heq f (g := mkF m pc Ls (.ref a :: rest)) rfl rfl (C.dec hd)
  exact Endw.st st (Kk T' (C.same X' N e'))
end Help
end Jvm.Own
namespace Jvm.Own
open Jvm Jvm.ClassFile Sem Op Lib Jvm.Free Jvm.Stand Jvm.LawKit Jvm.RoadKit Bundle
section Calls
variable {p : Program} {l : Launch} {e : Env} {R : Room} {s : State} {m : MethodId} {args : Array Value} {below : List Frame} {meth : Method} {c : Code}
variable {bs : ByteArray} {ml : Nat} {ret : Option FieldType} {nm own : String} {Z : State} {a0 : Array Value} {EL : List (String × Nat)} {nw nw' : Bool} {vm vm' : Vm} {T T' : State} {h h' : Heap} {k n k' n' : Nat} {F : Outcome → State → Prop} {pc pc' : Nat} {Ls : Array Slot} {rest : List Value} {g g' : JFrame} {Q : Option Value → Heap → Prop}
theorem own_safe_new {t : Addr} (M : ∀ y, Bk Z EL vm' h' y → Bk Z EL vm h y) (ge : h.size ≤ t) : Safe Z EL vm' h' t := fun b => Safe.new ge (M t b)
def Plain (Z : State) (C : String) : Prop := ∃ c k, Z.vm.findClass C = some c ∧ Z.vm.classes[c]? = some k ∧ k.isInterface = false
theorem own_plain {C : String} {y : MethodName} (w : (Jvm.Cond.selects C y y).before a0 Z = true) (wi : (Jvm.Cond.instanceMethod y).before a0 Z = true) : Plain Z y.cls := by
  obtain ⟨mk, methM, hn, -, -, -⟩ := Cond.instanceMethod_spec wi
  obtain ⟨kr, h1, h2⟩ := notFace_of_selects w _ hn
  exact ⟨_, kr, findClass_of_methodNamed hn, h1, h2⟩
theorem own_nf {y : MethodName} (P : Plain Z y.cls) : NotFace Z y := fun r0 h0 => by
  obtain ⟨cc, kc, h1, h2, h3⟩ := P
  cases h1.symm.trans (findClass_of_methodNamed h0)
  exact ⟨kc, h2, h3⟩
theorem own_same {y : MethodName} (w : (Jvm.Cond.declares y).before a0 Z = true) (P : Plain Z y.cls) (hy : y.cls ≠ "java/lang/invoke/MethodHandle" ∧ y.cls ≠ "java/lang/invoke/VarHandle") : (Jvm.Cond.sameMethod y.cls y.cls y.name y.desc).before a0 Z = true := by
  obtain ⟨r0, r, hn, -, -, -⟩ := Cond.declares_spec w
  obtain ⟨c, kc, h1, h2, h3⟩ := P
  have hf := State.methodFound?_of_named hn hy
  have hn' : Z.methodNamed? ⟨y.cls, y.name, y.desc⟩ = some r0 := hn
  simp [Cond.before, Cond.holds, Cond.value, h1, hf, hn', h2, h3]
theorem Core.super (C : Core p l e R s m args below meth c bs ml ret nm own Z a0 EL nw vm T h k n) {y : MethodName} {Cl : String} {ix : Nat} {bytes : ByteArray} {mx : Nat} {rt : Option FieldType} {rm : Room} {xs : List Addr} {W : Nat} {a : Addr} {argsL st : List Value} {as' : Array Value} (hne : y.name ≠ "<init>")
    (w1 : (Jvm.Cond.methodLink own ix y).before a0 Z = true) (w2 : (Jvm.Cond.sameMethod y.cls y.cls y.name y.desc).before a0 Z = true) (w6 : (Jvm.Cond.instanceMethod y).before a0 Z = true) (w5 : (Jvm.Cond.superclass own y.cls).before a0 Z = true) (w3 : (Jvm.Cond.code y bytes mx rt).before a0 Z = true) (w4 : (Jvm.Cond.initialized y.cls).before a0 Z = true)
    (hM : Met l Z EL nw' y bytes mx rt [] rm as' h xs Q) (hnn : nw = true → nw' = true) (has : as' = (.ref a :: argsL).toArray) (E : Exa Z h a Cl) (hs : ∀ x ∈ xs, x < h.size ∧ Safe Z EL vm h x) (hf : rm.frames + 1 ≤ R.frames) (hl : W + (mx + 11) + rm.locals ≤ R.locals) (hk : k + rm.cells ≤ R.cells) (hn : n + rm.slots ≤ R.slots)
    (hlen : ∀ sig, parseMethodDescriptor y.desc = some sig → argsL.length = sig.parameters.length) (hst : st = argsL.reverse ++ .ref a :: rest) (hW : (rest.map fun v => v.category).sum ≤ W) (hsz : Ls.size = ml) (hd : decode bs pc = .ok (.invokespecial ix, 3)) (hp : pc + 3 = pc')
    (K : ∀ vm' T' h' v, Core p l e R s m args below meth c bs ml ret nm own Z a0 EL nw vm' T' h' (k + rm.cells) (n + rm.slots) → CHr Z EL vm h vm' h' → (nw' = true → ∀ y, Bk Z EL vm' h' y → Bk Z EL vm h y) → Q v h' → Endw p e below T' (mkF m pc' Ls (v.toList ++ rest)) F) : Endw p e below T (mkF m pc Ls st) F := by
  subst hp has
  obtain ⟨-, ⟨L, X, N⟩, -⟩ := id C
  obtain ⟨v, vm₁, B, -, X', h2, -, ⟨L', ⟨q1, q2, q3⟩, e1, e2, e3, A, M⟩, st'⟩ := RoadKit.superBackS (a0 := a0) (s := s.setVm vm) (K := Cl) X C.hx C.warm (y := y) C.hown w1 w2 w6 w5 hne (backOwn (W := W) hM C.warm w3 w4 hf hl C.ew C.chv hs) C.heq (Ins.self E) (g := mkF m pc Ls st) rfl (hsz.trans C.mlq.symm) w3 (argsL := argsL) (rest := rest) hlen hst (by show 2 * 0 + _ ≤ _; omega) (C.dec hd) (fun _ _ => ⟨rfl, C.heq, hk, hn⟩)
  exact Endw.ste st' (K _ _ _ v (C.behind X' h2 N q2 q3 e1 e2 e3 A (fun z => M (hnn z))) A (fun z => (M z).2) q1)
theorem Core.priv (C : Core p l e R s m args below meth c bs ml ret nm own Z a0 EL nw vm T h k n) {y : MethodName} {Cl : String} {ix : Nat} {bytes : ByteArray} {mx : Nat} {rt : Option FieldType} {rm : Room} {xs : List Addr} {W : Nat} {a : Addr} {argsL st : List Value} {as' : Array Value}
    (w1 : (Jvm.Cond.methodLink own ix y).before a0 Z = true) (w6 : (Jvm.Cond.instanceMethod y).before a0 Z = true) (P : Plain Z y.cls) (w7 : (Jvm.Cond.privateMethod y).before a0 Z = true) (w3 : (Jvm.Cond.code y bytes mx rt).before a0 Z = true) (w4 : (Jvm.Cond.initialized y.cls).before a0 Z = true) (hy : y.cls ≠ "java/lang/invoke/MethodHandle" ∧ y.cls ≠ "java/lang/invoke/VarHandle")
    (hM : Met l Z EL nw' y bytes mx rt [] rm as' h xs Q) (hnn : nw = true → nw' = true) (has : as' = (.ref a :: argsL).toArray) (E : Exa Z h a Cl) (hs : ∀ x ∈ xs, x < h.size ∧ Safe Z EL vm h x) (hf : rm.frames + 1 ≤ R.frames) (hl : W + (mx + 11) + rm.locals ≤ R.locals) (hk : k + rm.cells ≤ R.cells) (hn : n + rm.slots ≤ R.slots)
    (hlen : ∀ sig, parseMethodDescriptor y.desc = some sig → argsL.length = sig.parameters.length) (hst : st = argsL.reverse ++ .ref a :: rest) (hW : (rest.map fun v => v.category).sum ≤ W) (hsz : Ls.size = ml) (hd : decode bs pc = .ok (.invokevirtual ix, 3)) (hp : pc + 3 = pc')
    (K : ∀ vm' T' h' v, Core p l e R s m args below meth c bs ml ret nm own Z a0 EL nw vm' T' h' (k + rm.cells) (n + rm.slots) → CHr Z EL vm h vm' h' → (nw' = true → ∀ y, Bk Z EL vm' h' y → Bk Z EL vm h y) → Q v h' → Endw p e below T' (mkF m pc' Ls (v.toList ++ rest)) F) : Endw p e below T (mkF m pc Ls st) F := by
  subst hp has
  obtain ⟨-, ⟨L, X, N⟩, -⟩ := id C
  obtain ⟨cell, c1, c2⟩ := Exa.cell E
  obtain ⟨cP, kP, p1, p2, p3⟩ := P
  have w5 : (Jvm.Cond.selects y.cls y y).before a0 Z = true := selects_self_of_private p1 p2 p3 (Cond.privateMethod_at w7) w6 hy
  obtain ⟨v, vm₁, B, -, X', h2, -, ⟨L', ⟨q1, q2, q3⟩, e1, e2, e3, A, M⟩, st'⟩ := X.privateBackS C.hx (y := y) C.hown (mvT C.warm w1) (mvT C.warm w6) (mvT C.warm w5) (Cond.privateMethod_at (mvP (s := s.setVm vm) C.warm w7 (args := #[]))) (mvT C.warm w3) hy (backOwn (W := W) hM C.warm w3 w4 hf hl C.ew C.chv hs) (g := mkF m pc Ls st) rfl (hsz.trans C.mlq.symm) (Steps.refl _) (a := a) (by rw [C.heq]; exact c1) c2 (argsL := argsL) (rest := rest) hlen hst (by show 2 * 0 + _ ≤ _; omega) (C.dec hd) (fun _ _ => ⟨rfl, C.heq, hk, hn⟩)
  exact Endw.ste st' (K _ _ _ v (C.behind X' h2 N q2 q3 e1 e2 e3 A (fun z => M (hnn z))) A (fun z => (M z).2) q1)
theorem Core.acopy (C : Core p l e R s m args below meth c bs ml ret nm own Z a0 EL nw vm T h k n) {ix : Nat} {a b : Addr} {k1 k2 : ClassId} {ty : FieldType} {z1 z2 sp dp nn : Int32} {vs vd vr : List Value} {d1 d2 : Value} {W : Nat}
    (w1 : (Jvm.Cond.methodLink own ix Jvm.Stand.acN).before a0 Z = true) (w2 : (Jvm.Cond.native Jvm.Stand.acN).before a0 Z = true) (w3 : (Jvm.Cond.static Jvm.Stand.acN).before a0 Z = true) (w4 : (Jvm.Cond.initialized "java/lang/System").before a0 Z = true)
    (A : Arv Z h a k1 ty z1 vs d1) (B : Arv Z h b k2 ty z2 vd d2) (hty : refKind ty = false) (h1 : ¬ sp < 0) (h2 : ¬ dp < 0) (h3 : ¬ nn < 0) (h4 : sp.toNatClampNeg + nn.toNatClampNeg ≤ z1.toNatClampNeg) (h5 : dp.toNatClampNeg + nn.toNatClampNeg ≤ z2.toNatClampNeg) (hl : dp.toNatClampNeg + nn.toNatClampNeg ≤ vd.length)
    (hr : vd.take dp.toNatClampNeg ++ ((List.range nn.toNatClampNeg).map fun i => vs.getD (sp.toNatClampNeg + i) d1) ++ vd.drop (dp.toNatClampNeg + nn.toNatClampNeg) = vr) (ge : Z.heap.size ≤ b) (sf : Safe Z EL vm h b) (hsz : Ls.size = ml) (hd : decode bs pc = .ok (.invokestatic ix, 3)) (hp : pc + 3 = pc')
    (hf : 1 ≤ R.frames) (hW : (rest.map fun v => v.category).sum ≤ W) (hlo : W + (nativeFrameWords "java/lang/System" "arraycopy" 5 + 11) ≤ R.locals)
    (K : ∀ T' h', Core p l e R s m args below meth c bs ml ret nm own Z a0 EL nw vm T' h' k n → Keep h h' [b] → CHr Z EL vm h vm h' → Arv Z h' b k2 ty z2 vr d2 → Endw p e below T' (mkF m pc' Ls rest) F) : Endw p e below T (mkF m pc Ls (.int nn :: .int dp :: .ref b :: .int sp :: .ref a :: rest)) F := by
  subst hp hr
  obtain ⟨-, ⟨L, X, N⟩, -⟩ := id C
  obtain ⟨T', h', L', X', e', N', Kp, V, st⟩ := RoadKit.cpA X C.hx C.warm C.hown w1 w2 w3 w4 C.heq A B (Or.inl ⟨rfl, hty⟩) h1 h2 h3 h4 h5 rfl hl N ge (g := mkF m pc Ls (.int nn :: .int dp :: .ref b :: .int sp :: .ref a :: rest)) rfl (hsz.trans C.mlq.symm) rfl (C.dec hd) hf (W := W) (by show 2 * 0 + _ ≤ _; omega) hlo
  exact Endw.st st (K T' h' (C.on (ws := [b]) X' N' e' Kp (allS ge all0) (sfS sf sf0)) Kp (CHr.keep Kp (sfS sf sf0) C.chv) V)
end Calls
end Jvm.Own
namespace Jvm.Own
open Jvm Jvm.ClassFile Sem Op Lib Jvm.Free Jvm.Stand Jvm.LawKit Jvm.RoadKit Bundle
section Num
theorem own_ti {n : Nat} (h : n < 2147483648) : (Int32.ofNat n).toInt = (n : Int) := Int32.toInt_ofNat_small (by omega)
theorem own_nn {n : Nat} (h : n < 2147483648) : ¬ Int32.ofNat n < 0 := by
  rw [Int32.lt_iff_toInt_lt, own_ti h]; show ¬ ((n : Int) < 0); omega
theorem own_nc {n : Nat} (h : n < 2147483648) : (Int32.ofNat n).toNatClampNeg = n := by
  simp only [Int32.toNatClampNeg, own_ti h]; omega
theorem own_lt {a b : Nat} (ha : a < 2147483648) (hb : b < 2147483648) : Int32.ofNat a < Int32.ofNat b ↔ a < b := by
  rw [Int32.lt_iff_toInt_lt, own_ti ha, own_ti hb]; omega
theorem own_ieq {a b : Nat} (ha : a < 2147483648) (hb : b < 2147483648) : Int32.ofNat a = Int32.ofNat b ↔ a = b := by
  constructor
  · intro e; have := congrArg Int32.toInt e; rw [own_ti ha, own_ti hb] at this; omega
  · rintro rfl; rfl
theorem own_add (a b : Nat) : Int32.ofNat a + Int32.ofNat b = Int32.ofNat (a + b) := (Int32.ofNat_add a b).symm
theorem own_sub {a b : Nat} (h : b ≤ a) : Int32.ofNat a - Int32.ofNat b = Int32.ofNat (a - b) := by
  have e : Int32.ofNat a = Int32.ofNat (a - b) + Int32.ofNat b := by rw [own_add]; congr 1; omega
  rw [e]; exact Int32.add_sub_cancel _ _
theorem own_shr0 (x : Int32) : x >>> ((0 : Int32) &&& 31) = x := by
  rw [show ((0 : Int32) &&& 31) = 0 from by decide]
  apply Int32.toBitVec_inj.mp; rw [Int32.toBitVec_shiftRight, show (0 : Int32).toBitVec.smod 32 = 0#32 from by decide]; simp
theorem own_shl0 (x : Int32) : x <<< ((0 : Int32) &&& 31) = x := by
  rw [show ((0 : Int32) &&& 31) = 0 from by decide]
  apply Int32.toBitVec_inj.mp; rw [Int32.toBitVec_shiftLeft, show (0 : Int32).toBitVec.smod 32 = 0#32 from by decide]; simp
theorem bys_len (cs : List Int32) : (bys cs).length = cs.length := by simp [bys]
theorem bys_app (cs ds : List Int32) : bys (cs ++ ds) = bys cs ++ bys ds := by simp [bys]
theorem own_cat (cs ds : List Int32) : ((bys cs ++ List.replicate ds.length (Value.int 0)).take cs.length) ++ ((List.range ds.length).map fun i => (bys ds).getD (0 + i) (Value.int 0)) ++ ((bys cs ++ List.replicate ds.length (Value.int 0)).drop (cs.length + ds.length)) = bys (cs ++ ds) := by
  have h1 : (bys cs ++ List.replicate ds.length (Value.int 0)).take cs.length = bys cs := by rw [← bys_len cs]; exact List.take_left
  have h2 : (bys cs ++ List.replicate ds.length (Value.int 0)).drop (cs.length + ds.length) = [] := by
    apply List.drop_eq_nil_of_le; simp [bys_len]
  have h3 : ((List.range ds.length).map fun i => (bys ds).getD (0 + i) (Value.int 0)) = bys ds := by
    apply List.ext_getElem
    · simp [bys_len]
    · intro i q1 q2
      simp only [List.getElem_map, List.getElem_range, Nat.zero_add]
      rw [List.getD_eq_getElem?_getD, List.getElem?_eq_getElem q2]; rfl
  rw [h1, h2, h3, List.append_nil, bys_app]
end Num
end Jvm.Own
namespace Jvm.Own
open Jvm Jvm.ClassFile Sem Op Lib Jvm.Free Jvm.Stand Jvm.LawKit Jvm.RoadKit Bundle
section Sb
variable {p : Program} {l : Launch} {e : Env} {R : Room} {s : State} {m : MethodId} {args : Array Value} {below : List Frame} {meth : Method} {c : Code}
variable {bs : ByteArray} {ml : Nat} {ret : Option FieldType} {nm own : String} {Z : State} {a0 : Array Value} {EL : List (String × Nat)} {nw : Bool} {vm : Vm} {T T' : State} {h h' : Heap} {k n : Nat} {F : Outcome → State → Prop} {pc pc' : Nat} {Ls : Array Slot} {rest : List Value}
def Sb (Z : State) (h : Heap) (b t : Addr) (kb : ClassId) (cs : List Int32) (cap : Nat) : Prop :=
  Exa Z h b "java/lang/StringBuilder" ∧ (Fld Z h b "java/lang/AbstractStringBuilder" "coder" "B" (.int 0) ∧ Fld Z h b "java/lang/AbstractStringBuilder" "count" "I" (.int (Int32.ofNat cs.length))) ∧ Fld Z h b "java/lang/AbstractStringBuilder" "value" "[B" (.ref t) ∧
    Arv Z h t kb .byte (Int32.ofNat cap) (bys cs) (.int 0) ∧ (∀ c ∈ cs, B8 c) ∧ cs.length ≤ cap ∧ cap ≤ 4000
theorem Sb.keep {b t : Addr} {kb : ClassId} {cs : List Int32} {cap : Nat} {ws : List Addr} (S : Sb Z h b t kb cs cap) (K : Keep h h' ws) (q1 : b ∉ ws) (q2 : t ∉ ws) : Sb Z h' b t kb cs cap :=
  ⟨S.1.keep K, ⟨S.2.1.1.keep K q1, S.2.1.2.keep K q1⟩, S.2.2.1.keep K q1, S.2.2.2.1.keep K q2, S.2.2.2.2⟩
theorem Sb.le {b t : Addr} {kb : ClassId} {cs : List Int32} {cap : Nat} (S : Sb Z h b t kb cs cap) : cs.length ≤ cap := S.2.2.2.2.2.1
theorem Sb.le4 {b t : Addr} {kb : ClassId} {cs : List Int32} {cap : Nat} (S : Sb Z h b t kb cs cap) : cap ≤ 4000 := S.2.2.2.2.2.2
theorem Str.le4 {b t : Addr} {kb : ClassId} {cs : List Int32} (S : Str Z h b t kb cs) : cs.length ≤ 4000 := S.2.2.2.2.2
theorem own_all_app {P : Int32 → Prop} {cs ds : List Int32} (h1 : ∀ c ∈ cs, P c) (h2 : ∀ c ∈ ds, P c) : ∀ c ∈ cs ++ ds, P c := fun c q => (List.mem_append.mp q).elim (h1 c) (h2 c)
theorem Core.acopyCat (C : Core p l e R s m args below meth c bs ml ret nm own Z a0 EL nw vm T h k n) {ix : Nat} {a b : Addr} {k1 k2 : ClassId} {cs ds : List Int32} {cap W : Nat}
    (w1 : (Jvm.Cond.methodLink own ix Jvm.Stand.acN).before a0 Z = true) (w2 : (Jvm.Cond.native Jvm.Stand.acN).before a0 Z = true) (w3 : (Jvm.Cond.static Jvm.Stand.acN).before a0 Z = true) (w4 : (Jvm.Cond.initialized "java/lang/System").before a0 Z = true)
    (A : Arv Z h a k1 .byte (Int32.ofNat ds.length) (bys ds) (.int 0)) (B : Arv Z h b k2 .byte (Int32.ofNat cap) (bys cs) (.int 0)) (hle : cs.length + ds.length ≤ cap) (hc : cap ≤ 4000) (ge : Z.heap.size ≤ b) (sf : Safe Z EL vm h b) (hsz : Ls.size = ml) (hd : decode bs pc = .ok (.invokestatic ix, 3)) (hp : pc + 3 = pc')
    (hf : 1 ≤ R.frames) (hW : (rest.map fun v => v.category).sum ≤ W) (hlo : W + (nativeFrameWords "java/lang/System" "arraycopy" 5 + 11) ≤ R.locals)
    (K : ∀ T' h', Core p l e R s m args below meth c bs ml ret nm own Z a0 EL nw vm T' h' k n → Keep h h' [b] → CHr Z EL vm h vm h' → Arv Z h' b k2 .byte (Int32.ofNat cap) (bys (cs ++ ds)) (.int 0) → Endw p e below T' (mkF m pc' Ls rest) F) : Endw p e below T (mkF m pc Ls (.int (Int32.ofNat ds.length) :: .int (Int32.ofNat cs.length) :: .ref b :: .int 0 :: .ref a :: rest)) F := by
  have e1 : (Int32.ofNat cs.length).toNatClampNeg = cs.length := own_nc (by omega)
  have e2 : (Int32.ofNat ds.length).toNatClampNeg = ds.length := own_nc (by omega)
  have e3 : (Int32.ofNat cap).toNatClampNeg = cap := own_nc (by omega)
  have e0 : (0 : Int32).toNatClampNeg = 0 := by decide
  refine C.acopy (ty := .byte) (vr := bys (cs ++ ds)) w1 w2 w3 w4 A (B.pad (vs' := bys cs ++ List.replicate ds.length (.int 0)) (pad_rep _ _ _)) rfl (by decide) (own_nn (by omega)) (own_nn (by omega)) (by rw [e0, e2]; omega) (by rw [e1, e2, e3]; omega) (by rw [e1, e2]; simp [bys_len]) ?_ ge sf hsz hd hp hf hW hlo K
  rw [e1, e2, e0]; exact own_cat cs ds
theorem Core.acopyNew (C : Core p l e R s m args below meth c bs ml ret nm own Z a0 EL nw vm T h k n) {ix : Nat} {a b : Addr} {k1 k2 : ClassId} {cs : List Int32} {cap N M W : Nat}
    (w1 : (Jvm.Cond.methodLink own ix Jvm.Stand.acN).before a0 Z = true) (w2 : (Jvm.Cond.native Jvm.Stand.acN).before a0 Z = true) (w3 : (Jvm.Cond.static Jvm.Stand.acN).before a0 Z = true) (w4 : (Jvm.Cond.initialized "java/lang/System").before a0 Z = true)
    (A : Arv Z h a k1 .byte (Int32.ofNat cap) (bys cs) (.int 0)) (B : Arv Z h b k2 .byte (Int32.ofNat N) [] (.int 0)) (h1 : cs.length ≤ M) (h2 : M ≤ cap) (h3 : M ≤ N) (hc : cap ≤ 4000) (hN : N ≤ 4000) (ge : Z.heap.size ≤ b) (sf : Safe Z EL vm h b) (hsz : Ls.size = ml) (hd : decode bs pc = .ok (.invokestatic ix, 3)) (hp : pc + 3 = pc')
    (hf : 1 ≤ R.frames) (hW : (rest.map fun v => v.category).sum ≤ W) (hlo : W + (nativeFrameWords "java/lang/System" "arraycopy" 5 + 11) ≤ R.locals)
    (K : ∀ T' h', Core p l e R s m args below meth c bs ml ret nm own Z a0 EL nw vm T' h' k n → Keep h h' [b] → CHr Z EL vm h vm h' → Arv Z h' b k2 .byte (Int32.ofNat N) (bys cs) (.int 0) → Endw p e below T' (mkF m pc' Ls rest) F) : Endw p e below T (mkF m pc Ls (.int (Int32.ofNat M) :: .int 0 :: .ref b :: .int 0 :: .ref a :: rest)) F := by
  have e2 : (Int32.ofNat M).toNatClampNeg = M := own_nc (by omega)
  have e3 : (Int32.ofNat cap).toNatClampNeg = cap := own_nc (by omega)
  have e4 : (Int32.ofNat N).toNatClampNeg = N := own_nc (by omega)
  have e0 : (0 : Int32).toNatClampNeg = 0 := by decide
  have V : ∀ i, (bys cs).getD i (Value.int 0) = (bys cs ++ List.replicate (M - cs.length) (Value.int 0)).getD i (Value.int 0) := fun i => (pad_rep _ _ _ i).symm
  refine C.acopy (ty := .byte) (vr := bys cs ++ List.replicate (M - cs.length) (.int 0)) w1 w2 w3 w4 A (B.pad (vs' := [] ++ List.replicate M (.int 0)) (pad_rep _ _ _)) rfl (by decide) (by decide) (own_nn (by omega)) (by rw [e0, e2, e3]; omega) (by rw [e0, e2, e4]; omega) (by rw [e0, e2]; simp) ?_ ge sf hsz hd hp hf hW hlo ?_
  · rw [e0, e2]
    have q2 : (([] : List Value) ++ List.replicate M (Value.int 0)).drop (0 + M) = [] := by apply List.drop_eq_nil_of_le; simp
    rw [q2, List.take_zero, List.nil_append, List.append_nil]
    apply List.ext_getElem
    · simp [bys_len]; omega
    · intro i q1 q2
      simp only [List.getElem_map, List.getElem_range, Nat.zero_add]
      rw [V i, List.getD_eq_getElem?_getD, List.getElem?_eq_getElem q2]; rfl
  · intro T' h' C' Kp A' V'
    exact K T' h' C' Kp A' (V'.pad fun i => (pad_rep _ _ _ i).symm)
end Sb
end Jvm.Own
namespace Jvm.Own
open Jvm
section SbNum
theorem own_sub_le {a b : Nat} (h : a ≤ b) (hb : b ≤ 4000) : ¬ (0 : Int32) < Int32.ofNat a - Int32.ofNat b := by
  rw [Int32.lt_iff_toInt_lt, Int32.toInt_sub, own_ti (by omega), own_ti (by omega)]
  show ¬ ((0 : Int) < _)
  rw [Int.bmod_eq_of_le (by omega) (by omega)]; omega
theorem own_sub0 (x : Int32) : x - 0 = x := Int32.sub_zero x
theorem own_min_r {a b : Nat} (h : b < a) (ha : a ≤ 100000) : (if Int32.ofNat b < Int32.ofNat a then Int32.ofNat b else Int32.ofNat a) = Int32.ofNat b := if_pos ((own_lt (by omega) (by omega)).mpr h)
end SbNum
end Jvm.Own
namespace Jvm.Own
section Wd
def C16 (c : Int32) : Prop := ¬ c < 0 ∧ ¬ (65535 : Int32) < c
def own_lo (c : Int32) : Int32 := c.toInt8.toInt32
def own_hi (c : Int32) : Int32 := (c >>> ((8 : Int32) &&& 31)).toInt8.toInt32
def wideI : List Int32 → List Int32
  | [] => []
  | c :: r => own_lo c :: own_hi c :: wideI r
theorem own_toNat {x : Int32} (h0 : ¬ x < 0) : x.toInt = (x.toBitVec.toNat : Int) := by
  rw [Int32.lt_iff_toInt_lt] at h0
  have e0 : (0 : Int32).toInt = 0 := rfl
  have := x.toBitVec.isLt
  have e : x.toInt = x.toBitVec.toInt := rfl
  rw [e] at h0 ⊢
  rw [BitVec.toInt_eq_toNat_cond] at h0 ⊢
  split at h0 <;> split <;> omega
theorem own_lo_and (x : Int32) : (own_lo x &&& 255).toBitVec.toNat = x.toBitVec.toNat % 256 := by
  have h : (own_lo x).toBitVec = (x.toBitVec.signExtend 8).signExtend 32 := by rw [own_lo, Int8.toBitVec_toInt32, Int32.toBitVec_toInt8]
  rw [Int32.toBitVec_and, BitVec.toNat_and, h]
  have e : ((x.toBitVec.signExtend 8).signExtend 32).toNat % 256 = x.toBitVec.toNat % 256 := by
    rw [BitVec.toNat_signExtend]
    have hlt := x.toBitVec.isLt
    simp only [BitVec.toNat_setWidth, BitVec.toNat_signExtend]
    split <;> split <;> omega
  rw [← e]
  exact Nat.and_two_pow_sub_one_eq_mod _ 8
theorem own_c16N {c : Int32} (h : C16 c) : c.toBitVec.toNat < 65536 := by
  have hc := own_toNat h.1
  have h1 := h.2
  rw [Int32.lt_iff_toInt_lt] at h1
  have e1 : (65535 : Int32).toInt = 65535 := rfl
  omega
theorem own_bvEq {x y : Int32} (h : x.toBitVec.toNat = y.toBitVec.toNat) : x = y := Int32.toBitVec_inj.mp (BitVec.eq_of_toNat_eq h)
theorem own_i2cN (x : Int32) : (x.toUInt32.toUInt16.toUInt32.toInt32).toBitVec.toNat = x.toBitVec.toNat % 65536 := by
  show BitVec.toNat ((x.toBitVec.setWidth 16).setWidth 32) = _
  rw [BitVec.toNat_setWidth, BitVec.toNat_setWidth]
  omega
theorem own_i2c16 {x : Int32} (h : C16 x) : x.toUInt32.toUInt16.toUInt32.toInt32 = x := own_bvEq (by rw [own_i2cN]; have := own_c16N h; omega)
theorem own_chr8 {c : Int32} (h : ¬ c < 0 ∧ ¬ (255 : Int32) < c) : own_lo c &&& 255 = c := by
  have hc := own_toNat h.1
  have h1 := h.2
  rw [Int32.lt_iff_toInt_lt] at h1
  have e1 : (255 : Int32).toInt = 255 := rfl
  exact own_bvEq (by rw [own_lo_and]; omega)
theorem own_at (cs : List Int32) {i : Nat} (h : i ≤ cs.length) : (cs.drop i = [] ∧ i = cs.length) ∨ ∃ x r, cs.drop i = x :: r ∧ i < cs.length ∧ cs.getD i 0 = x ∧ cs.drop (i + 1) = r := by
  by_cases q : i < cs.length
  · refine Or.inr ⟨cs[i], cs.drop (i + 1), List.drop_eq_getElem_cons q, q, ?_, rfl⟩
    rw [List.getD_eq_getElem?_getD, List.getElem?_eq_getElem q]; rfl
  · have e : i = cs.length := by omega
    exact Or.inl ⟨by rw [e]; exact List.drop_length, e⟩
end Wd
end Jvm.Own
namespace Jvm.Own
open Jvm Jvm.ClassFile Sem Op Lib Jvm.Free Jvm.Stand Jvm.LawKit Jvm.RoadKit Bundle
section Wide
variable {p : Program} {l : Launch} {e : Env} {R : Room} {s : State} {m : MethodId} {args : Array Value} {below : List Frame} {meth : Method} {c : Code}
variable {bs : ByteArray} {ml : Nat} {ret : Option FieldType} {nm own : String} {Z : State} {a0 : Array Value} {EL : List (String × Nat)} {nw : Bool} {vm : Vm} {T T' : State} {h h' : Heap} {k n : Nat} {F : Outcome → State → Prop} {pc pc' : Nat} {Ls : Array Slot} {rest : List Value}
def own_vals (cs : List Int32) : List Value := cs.map Value.int
def own_wide (cs : List Int32) : List Value := own_vals (wideI cs)
theorem own_mapD (xs : List Int32) (i : Nat) : (own_vals xs).getD i (.int 0) = .int (xs.getD i 0) := by
  rw [own_vals, List.getD_eq_getElem?_getD, List.getElem?_map, List.getD_eq_getElem?_getD]
  cases xs[i]? <;> rfl
theorem own_bys1 (cs : List Int32) (x : Int32) : bys (cs ++ [x]) = bys cs ++ [.int x.toInt8.toInt32] := by simp [bys]
theorem own_bysV (cs : List Int32) : bys cs = own_vals (cs.map own_lo) := rfl
theorem own_bysD (cs : List Int32) {j : Nat} (h : j < cs.length) : (bys cs).getD j (.int 0) = .int (own_lo (cs.getD j 0)) := by
  rw [own_bysV, own_mapD]; congr 1
  rw [List.getD_eq_getElem?_getD, List.getElem?_map, List.getD_eq_getElem?_getD, List.getElem?_eq_getElem h]; rfl
theorem own_getAll {P : Int32 → Prop} {cs : List Int32} {j : Nat} (h : j < cs.length) (q : ∀ c ∈ cs, P c) : P (cs.getD j 0) := by
  rw [List.getD_eq_getElem?_getD, List.getElem?_eq_getElem h]; exact q _ (List.getElem_mem h)
theorem own_narC {x : Int32} (h : C16 x) : narrow .char (.int x) = .int x := congrArg Value.int (own_i2c16 h)
theorem own_inc (j : Nat) : Int32.ofNat j + (1 : Int32) = Int32.ofNat (j + 1) := own_add j 1
theorem own_n0 {n : Nat} (h : 0 < n) (h2 : n ≤ 4000) : ¬ Int32.ofNat n = (0 : Int32) := fun q => absurd ((own_ieq (b := 0) (by omega) (by omega)).mp q) (by omega)
def Wid (Z : State) (h : Heap) (a b : Addr) (kb : ClassId) (cs : List Int32) : Prop :=
  Exa Z h a "java/lang/String" ∧ Fld Z h a "java/lang/String" "coder" "B" (.int 1) ∧ Fld Z h a "java/lang/String" "value" "[B" (.ref b) ∧
    Arv Z h b kb .byte (Int32.ofNat (2 * cs.length)) (own_wide cs) (.int 0) ∧ (∀ c ∈ cs, C16 c) ∧ cs.length ≤ 8
theorem Wid.keep {a b : Addr} {kb : ClassId} {cs : List Int32} {ws : List Addr} (S : Wid Z h a b kb cs) (K : Keep h h' ws) (q1 : a ∉ ws) (q2 : b ∉ ws) : Wid Z h' a b kb cs :=
  ⟨S.1.keep K, S.2.1.keep K q1, S.2.2.1.keep K q1, S.2.2.2.1.keep K q2, S.2.2.2.2⟩
def Txt (Z : State) (h : Heap) (a b : Addr) (kb : ClassId) (cs : List Int32) : Prop := (Str Z h a b kb cs ∧ cs.length ≤ 8) ∨ Wid Z h a b kb cs
theorem Txt.keep {a b : Addr} {kb : ClassId} {cs : List Int32} {ws : List Addr} (S : Txt Z h a b kb cs) (K : Keep h h' ws) (q1 : a ∉ ws) (q2 : b ∉ ws) : Txt Z h' a b kb cs :=
  S.imp (fun q => ⟨q.1.keep K q1 q2, q.2⟩) (fun q => q.keep K q1 q2)
theorem Txt.exa {a b : Addr} {kb : ClassId} {cs : List Int32} (S : Txt Z h a b kb cs) : Exa Z h a "java/lang/String" := S.elim (fun q => q.1.1) (fun q => q.1)
theorem Txt.lt1 {a b : Addr} {kb : ClassId} {cs : List Int32} (S : Txt Z h a b kb cs) : a < h.size := S.exa.lt
theorem Core.bastoreEnd (C : Core p l e R s m args below meth c bs ml ret nm own Z a0 EL nw vm T h k n) {a : Addr} {kA : ClassId} {N i : Nat} {x x' : Int32} {vs : List Value} (A : Arv Z h a kA .byte (Int32.ofNat N) vs (.int 0)) (hi : vs.length = i) (hlt : i < N) (hN : N ≤ 4000) (hx' : nar .byte x = x') (ge : Z.heap.size ≤ a) (sf : Safe Z EL vm h a) (hd : decode bs pc = .ok (.bastore, 1)) (hp : pc + 1 = pc')
    (K : ∀ T' h', Core p l e R s m args below meth c bs ml ret nm own Z a0 EL nw vm T' h' k n → Keep h h' [a] → CHr Z EL vm h vm h' → Arv Z h' a kA .byte (Int32.ofNat N) (vs ++ [.int x']) (.int 0) → Endw p e below T' (mkF m pc' Ls rest) F) : Endw p e below T (mkF m pc Ls (.int x :: .int (Int32.ofNat i) :: .ref a :: rest)) F := by
  refine C.bastore (vs' := vs ++ [.int x']) (A.pad (vs' := vs ++ List.replicate 1 (.int 0)) (pad_rep _ _ _)) ⟨own_nn (by omega), (own_lt (by omega) (by omega)).mpr hlt⟩ i (own_nc (by omega)) (by simp; omega) hx' ge sf ?_ hd hp K
  subst hi
  rw [List.set_append_right _ _ (Nat.le_refl _), Nat.sub_self]; rfl
theorem Core.caloadN (C : Core p l e R s m args below meth c bs ml ret nm own Z a0 EL nw vm T h k n) {a : Addr} {kA : ClassId} {N j : Nat} {vs : List Value} {dv v : Value} (A : Arv Z h a kA .char (Int32.ofNat N) vs dv) (hj : j < N) (hN : N ≤ 8000) (hv : vs.getD j dv = v) (hd : decode bs pc = .ok (.caload, 1)) (hp : pc + 1 = pc')
    (K : Endw p e below T (mkF m pc' Ls (v :: rest)) F) : Endw p e below T (mkF m pc Ls (.int (Int32.ofNat j) :: .ref a :: rest)) F :=
  C.caload A ⟨own_nn (by omega), (own_lt (by omega) (by omega)).mpr hj⟩ (by rw [own_nc (by omega)]; exact hv) hd hp K
theorem Core.baloadN (C : Core p l e R s m args below meth c bs ml ret nm own Z a0 EL nw vm T h k n) {a : Addr} {kA : ClassId} {N j : Nat} {vs : List Value} {dv v : Value} (A : Arv Z h a kA .byte (Int32.ofNat N) vs dv) (hj : j < N) (hN : N ≤ 8000) (hv : vs.getD j dv = v) (hd : decode bs pc = .ok (.baload, 1)) (hp : pc + 1 = pc')
    (K : Endw p e below T (mkF m pc' Ls (v :: rest)) F) : Endw p e below T (mkF m pc Ls (.int (Int32.ofNat j) :: .ref a :: rest)) F :=
  C.baload A ⟨own_nn (by omega), (own_lt (by omega) (by omega)).mpr hj⟩ (by rw [own_nc (by omega)]; exact hv) hd hp K
end Wide
end Jvm.Own
namespace Jvm.Own
open Jvm Jvm.ClassFile Sem Op Lib Jvm.Free Jvm.Stand Jvm.LawKit Jvm.RoadKit Bundle
section Clone
variable {p : Program} {l : Launch} {e : Env} {R : Room} {s : State} {m : MethodId} {args : Array Value} {below : List Frame} {meth : Method} {c : Code}
variable {bs : ByteArray} {ml : Nat} {ret : Option FieldType} {nm own : String} {Z : State} {a0 : Array Value} {EL : List (String × Nat)} {nw : Bool} {vm : Vm} {T T' : State} {h h' : Heap} {k n : Nat} {F : Outcome → State → Prop} {pc pc' : Nat} {Ls : Array Slot} {rest : List Value} {g : JFrame}
theorem Core.newAE (C : Core p l e R s m args below meth c bs ml ret nm own Z a0 EL nw vm T h k n) {aty : ArrayType} {z : Int32} {cap : Nat} {vs : List Value} {ad : String} (had : "[" ++ (newarray.typeOf aty).toString = ad) (w : (Jvm.Cond.arrayClass (newarray.typeOf aty)).before a0 Z = true) (hd : decode bs pc = .ok (.newarray aty, 2)) (hp : pc + 2 = pc') (hz : ¬ z < 0) (hcap : z.toNatClampNeg ≤ cap) (hb : cap * 8 ≤ 536870912) (hk : k + 1 ≤ R.cells) (hn : n + cap ≤ R.slots) (hvs : vs = List.replicate vs.length (defaultValue (newarray.typeOf aty)))
    (K : ∀ T' h' x kA, Core p l e R s m args below meth c bs ml ret nm own Z a0 EL nw vm T' h' (k + 1) (n + cap) → Keep h h' [] → CHr Z EL vm h vm h' → h.size ≤ x → Z.heap.size ≤ x → Arv Z h' x kA (newarray.typeOf aty) z vs (defaultValue (newarray.typeOf aty)) → Safe Z EL vm h' x → Exa Z h' x ad → Endw p e below T' (mkF m pc' Ls (.ref x :: rest)) F) : Endw p e below T (mkF m pc Ls (.int z :: rest)) F := by
  subst hp
  obtain ⟨-, ⟨L, X, N⟩, -⟩ := id C
  obtain ⟨T', h', cA, X', e', E, A, Ex, st⟩ := RoadKit.newPE X C.hx C.warm w C.heq (g := mkF m pc Ls (.int z :: rest)) rfl (C.dec hd) rfl hz hcap hb hk hn had
  have q := (Arv.new A hz).pad (vs' := [] ++ List.replicate vs.length (defaultValue (newarray.typeOf aty))) (pad_rep _ _ _)
  rw [List.nil_append, ← hvs] at q
  exact Endw.st st (K T' h' h.size cA (C.on (ws := []) X' N e' (keep_of_ext E) all0 sf0) (keep_of_ext E) (CHr.keep (keep_of_ext E) sf0 C.chv) (Nat.le_refl _) C.le q (Safe.ext E C.chv (Safe.new (Nat.le_refl _))) Ex)
theorem Core.clone (C : Core p l e R s m args below meth c bs ml ret nm own Z a0 EL nw vm T h k n) {ad : String} {ix : Nat} (w1 : (Jvm.Cond.methodLink own ix ⟨ad, "clone", "()Ljava/lang/Object;"⟩).before a0 Z = true) (w2 : (Jvm.Cond.sameMethod ad "java/lang/Object" "clone" "()Ljava/lang/Object;").before a0 Z = true) (w3 : (Jvm.Cond.native ⟨"java/lang/Object", "clone", "()Ljava/lang/Object;"⟩).before a0 Z = true)
    (w4 : (Jvm.Cond.instanceMethod ⟨"java/lang/Object", "clone", "()Ljava/lang/Object;"⟩).before a0 Z = true) (w5 : (Jvm.Cond.selects ad ⟨ad, "clone", "()Ljava/lang/Object;"⟩ ⟨"java/lang/Object", "clone", "()Ljava/lang/Object;"⟩).before a0 Z = true) (w6 : (Jvm.Cond.castable ad "java/lang/Cloneable").before a0 Z = true)
    {a : Addr} {kA : ClassId} {ty : FieldType} {z : Int32} {vs : List Value} {dv : Value} (A : Arv Z h a kA ty z vs dv) (E : Exa Z h a ad) {W cap : Nat} (hf : 1 ≤ R.frames) (hW : (rest.map fun v => v.category).sum ≤ W) (hl : W + 14 ≤ R.locals) (hcap : z.toNatClampNeg ≤ cap) (hk : k + 1 ≤ R.cells) (hn : n + cap ≤ R.slots) (hsz : Ls.size = ml) (hd : decode bs pc = .ok (.invokevirtual ix, 3)) (hp : pc + 3 = pc')
    (K : ∀ T' h' x, Core p l e R s m args below meth c bs ml ret nm own Z a0 EL nw vm T' h' (k + 1) (n + cap) → Keep h h' [] → CHr Z EL vm h vm h' → h.size ≤ x → Z.heap.size ≤ x → Arv Z h' x kA ty z vs dv → Safe Z EL vm h' x → Exa Z h' x ad → Endw p e below T' (mkF m pc' Ls (.ref x :: rest)) F) : Endw p e below T (mkF m pc Ls (.ref a :: rest)) F := by
  subst hp
  obtain ⟨-, ⟨L, X, N⟩, -⟩ := id C
  obtain ⟨cl, Ar, q1, S, q3, H, G⟩ := A
  have FC : FitC Z cl := fitC_of Ar fun i hi v hv => by rw [H i hi] at hv; cases hv; exact G i hi
  obtain ⟨T', h', X', e', ex, A', E', st⟩ := RoadKit.cloneA X C.hx C.warm C.hown w1 w2 w3 w4 w5 w6 C.heq Ar E FC (g := mkF m pc Ls (.ref a :: rest)) rfl (hsz.trans C.mlq.symm) rfl (C.dec hd) hf (W := W) (by show 2 * 0 + _ ≤ _; omega) hl (by rw [S]; exact hcap) hk hn
  exact Endw.st st (K T' h' h.size (C.on (ws := []) X' N e' (keep_of_ext ex) all0 sf0) (keep_of_ext ex) (CHr.keep (keep_of_ext ex) sf0 C.chv) (Nat.le_refl _) C.le ⟨cloneOf cl, A', q1, S, q3, H, G⟩ (Safe.ext ex C.chv (Safe.new (Nat.le_refl _))) E')
end Clone
end Jvm.Own
namespace Jvm.Own
section Ix
def own_ix (ch : Int32) : List Int32 → Nat
  | [] => 0
  | x :: r => if x = ch then 0 else own_ix ch r + 1
def own_sl (cs : List Int32) (i j : Nat) : List Int32 := (cs.take j).drop i
def own_pre : List Int32 → List Int32 → Bool
  | [], _ => true
  | _ :: _, [] => false
  | p :: ps, x :: r => if x = p then own_pre ps r else false
def own_sc : List Int32 → Nat
  | [] => 0
  | x :: r => if x = 58 then 0 else if x = 47 then 0 else own_sc r + 1
theorem own_ix_le (ch : Int32) (cs : List Int32) : own_ix ch cs ≤ cs.length := by
  induction cs with
  | nil => exact Nat.le_refl _
  | cons x r ih => rw [own_ix, List.length_cons]; split <;> omega
theorem own_ix_get {ch : Int32} {cs : List Int32} (h : own_ix ch cs < cs.length) : cs.getD (own_ix ch cs) 0 = ch := by
  induction cs with
  | nil => exact absurd h (Nat.not_lt_zero _)
  | cons x r ih =>
    rw [own_ix] at h ⊢
    by_cases q : x = ch
    · rw [if_pos q]; exact q
    · rw [if_neg q] at h ⊢; exact ih (by simpa using h)
theorem own_sl_len {cs : List Int32} {i j : Nat} (h : j ≤ cs.length) : (own_sl cs i j).length = j - i := by
  rw [own_sl, List.length_drop, List.length_take, Nat.min_eq_left h]
theorem own_sl_app {cs : List Int32} {i j k : Nat} (h1 : i ≤ j) (h2 : j ≤ k) : own_sl cs i j ++ own_sl cs j k = own_sl cs i k := by
  apply List.ext_getElem?
  intro n
  simp only [own_sl]
  rw [List.getElem?_append]
  simp only [List.length_drop, List.length_take, List.getElem?_drop, List.getElem?_take]
  split
  · rw [if_pos (by omega), if_pos (by omega)]
  · rename_i hn
    by_cases hl : cs.length ≤ j
    · have e1 : cs[j + (n - (min j cs.length - i))]? = none := List.getElem?_eq_none (by omega)
      have e2 : cs[i + n]? = none := List.getElem?_eq_none (by omega)
      rw [e1, e2]; split <;> split <;> rfl
    · rw [Nat.min_eq_left (by omega)] at hn ⊢
      rw [show j + (n - (j - i)) = i + n by omega]
theorem own_sl_one {cs : List Int32} {i : Nat} (h : i < cs.length) : own_sl cs i (i + 1) = [cs.getD i 0] := by
  rw [own_sl, List.getD_eq_getElem?_getD, List.getElem?_eq_getElem h, List.take_succ, List.getElem?_eq_getElem h, List.drop_append_of_le_length (by rw [List.length_take]; omega), List.drop_eq_nil_of_le (by rw [List.length_take]; omega)]
  rfl
theorem own_sl_all (cs : List Int32) : own_sl cs 0 cs.length = cs := by rw [own_sl, List.drop_zero, List.take_length]
theorem own_sl_nil (cs : List Int32) (i : Nat) : own_sl cs i i = [] := by
  rw [own_sl, List.drop_eq_nil_of_le (by rw [List.length_take]; omega)]
theorem own_sl_get {cs : List Int32} {i j n : Nat} (h : i + n < j) (h2 : j ≤ cs.length) : (own_sl cs i j).getD n 0 = cs.getD (i + n) 0 := by
  simp only [own_sl, List.getD_eq_getElem?_getD, List.getElem?_drop, List.getElem?_take]
  rw [if_pos h]
theorem own_sc_eq {cs : List Int32} {qm : Nat} (h1 : own_ix 58 cs < own_ix 47 cs) (h2 : own_ix 58 cs < qm) : own_sc (cs.take qm) = own_ix 58 cs := by
  induction cs generalizing qm with
  | nil => exact absurd h1 (Nat.lt_irrefl _)
  | cons x r ih =>
    cases qm with
    | zero => exact absurd h2 (Nat.not_lt_zero _)
    | succ qm =>
      rw [List.take_succ_cons, own_sc]
      rw [own_ix] at h1 h2 ⊢
      by_cases q : x = 58
      · rw [if_pos q, if_pos q]
      · rw [if_neg q] at h1 h2 ⊢
        rw [own_ix] at h1
        by_cases q2 : x = 47
        · rw [if_pos q2] at h1; exact absurd h1 (Nat.not_lt_zero _)
        · rw [if_neg q2] at h1
          rw [if_neg q, if_neg q2, ih (by omega) (by omega)]
theorem own_sc_le (cs : List Int32) : own_sc cs ≤ cs.length := by
  induction cs with
  | nil => exact Nat.le_refl _
  | cons x r ih => rw [own_sc, List.length_cons]; split <;> (try split) <;> omega
def own_oa : Option (List Int32) → List Int32
  | none => []
  | some a => 47 :: 47 :: a
def own_oc (ch : Int32) : Option (List Int32) → List Int32
  | none => []
  | some a => ch :: a
def own_txt (s : List Int32) (oa : Option (List Int32)) (p : List Int32) (oq : Option (List Int32)) (of : Option (List Int32)) : List Int32 :=
  s ++ [58] ++ own_oa oa ++ p ++ own_oc 63 oq ++ own_oc 35 of
section Base
variable {cs : List Int32} {colon fm q qm ps : Nat} {A : Prop}
theorem own_headA (hc : colon < cs.length) (h58 : cs.getD colon 0 = 58) (h1 : cs.getD (colon + 1) 0 = 47) (h2 : cs.getD (colon + 2) 0 = 47) (h3 : colon + 3 ≤ ps) (h4 : ps ≤ cs.length) : own_sl cs 0 colon ++ [58] ++ own_oa (some (own_sl cs (colon + 3) ps)) = own_sl cs 0 ps := by
  rw [← own_sl_app (cs := cs) (i := 0) (j := colon) (k := ps) (by omega) (by omega), ← own_sl_app (cs := cs) (i := colon) (j := colon + 1) (k := ps) (by omega) (by omega), own_sl_one hc, h58, List.append_assoc]
  congr 2
  rw [← own_sl_app (cs := cs) (i := colon + 1) (j := colon + 1 + 1) (k := ps) (by omega) (by omega), own_sl_one (by omega), h1, ← own_sl_app (cs := cs) (i := colon + 1 + 1) (j := colon + 1 + 1 + 1) (k := ps) (by omega) (by omega), own_sl_one (by omega), h2]
  rfl
theorem own_headN (hc : colon < cs.length) (h58 : cs.getD colon 0 = 58) : own_sl cs 0 colon ++ [58] ++ own_oa none = own_sl cs 0 (colon + 1) := by
  rw [← own_sl_app (cs := cs) (i := 0) (j := colon) (k := colon + 1) (by omega) (by omega), own_sl_one hc, h58]
  simp [own_oa]
theorem own_tail (h1 : qm ≤ fm) (h2 : fm ≤ cs.length) (h3 : qm < fm → cs.getD qm 0 = 63) : own_oc 63 (if qm < fm then some (own_sl cs (qm + 1) fm) else none) = own_sl cs qm fm := by
  by_cases h : qm < fm
  · rw [if_pos h, ← own_sl_app (cs := cs) (i := qm) (j := qm + 1) (k := fm) (by omega) (by omega), own_sl_one (by omega), h3 h]; rfl
  · rw [if_neg h, show fm = qm by omega, own_sl_nil]; rfl
end Base
end Ix
end Jvm.Own
namespace Jvm.Own
section LatP
def own_fnd (ch : Int32) (cs : List Int32) (f : Nat) (z : Int32) : Prop :=
  (f + own_ix ch (cs.drop f) < cs.length ∧ z = Int32.ofNat (f + own_ix ch (cs.drop f))) ∨ (f + own_ix ch (cs.drop f) = cs.length ∧ z = -1)
theorem own_loInj {a b : Int32} (ha : ¬ a < 0 ∧ ¬ (255 : Int32) < a) (hb : ¬ b < 0 ∧ ¬ (255 : Int32) < b) (h : own_lo a = own_lo b) : a = b := by
  have q := own_chr8 ha; rw [h, own_chr8 hb] at q; exact q.symm
theorem own_fndE {ch : Int32} {cs : List Int32} {j : Nat} (h : j = cs.length) : own_fnd ch cs j (-1) := by
  refine Or.inr ⟨?_, rfl⟩
  rw [List.drop_eq_nil_of_le (by omega)]; exact h
theorem own_fndY {ch x : Int32} {cs r : List Int32} {j : Nat} (ec : cs.drop j = x :: r) (lt : j < cs.length) (e : x = ch) : own_fnd ch cs j (Int32.ofNat j) := by
  refine Or.inl ?_
  rw [ec, own_ix, if_pos e]; exact ⟨lt, rfl⟩
theorem own_fndN {ch x z : Int32} {cs r : List Int32} {j : Nat} (ec : cs.drop j = x :: r) (er : cs.drop (j + 1) = r) (ne : ¬ x = ch) (q : own_fnd ch cs (j + 1) z) : own_fnd ch cs j z := by
  unfold own_fnd at q ⊢
  rw [ec, own_ix, if_neg ne]; rw [er] at q
  rw [show j + (own_ix ch r + 1) = j + 1 + own_ix ch r by omega]; exact q
def own_sw (ps r : List Int32) : Int32 := if own_pre ps r = true then 1 else 0
theorem own_preLen {ps r : List Int32} (h : r.length < ps.length) : own_pre ps r = false := by
  induction ps generalizing r with
  | nil => exact absurd h (Nat.not_lt_zero _)
  | cons p ps ih =>
    cases r with
    | nil => rfl
    | cons x r =>
      rw [own_pre]
      by_cases q : x = p
      · rw [if_pos q]; exact ih (by simpa using h)
      · rw [if_neg q]
theorem own_subLt {a b f : Nat} (ha : a ≤ 4000) (hb : b ≤ 4000) (hf : f ≤ 4000) : Int32.ofNat a - Int32.ofNat b < Int32.ofNat f ↔ a < f + b := by
  rw [Int32.lt_iff_toInt_lt, Int32.toInt_sub, own_ti (by omega), own_ti (by omega), own_ti (by omega), Int.bmod_eq_of_le (by omega) (by omega)]
  omega
theorem own_le7 {n : Nat} (h : n ≤ 7) : ¬ (7 : Int32) < Int32.ofNat n := by
  rw [Int32.lt_iff_toInt_lt, own_ti (by omega)]; show ¬ ((7 : Int) < _); omega
theorem own_minLe {a b : Nat} (h : b ≤ a) (ha : a ≤ 4000) : (if Int32.ofNat b < Int32.ofNat a then Int32.ofNat b else Int32.ofNat a) = Int32.ofNat b := by
  by_cases q : b = a
  · rw [q]; exact ite_self _
  · exact if_pos (by rw [Int32.lt_iff_toInt_lt, own_ti (by omega), own_ti (by omega)]; omega)
theorem own_max0 {a : Nat} (ha : a ≤ 4000) : (if Int32.ofNat a < (0 : Int32) then (0 : Int32) else Int32.ofNat a) = Int32.ofNat a := if_neg (by rw [Int32.lt_iff_toInt_lt, own_ti (by omega)]; show ¬ (_ < (0 : Int)); omega)
theorem own_preS {p x : Int32} {ps r : List Int32} (h : x = p) : own_pre (p :: ps) (x :: r) = own_pre ps r := by rw [own_pre, if_pos h]
theorem own_preN {p x : Int32} {ps r : List Int32} (h : ¬ x = p) : own_pre (p :: ps) (x :: r) = false := by rw [own_pre, if_neg h]
theorem own_subCases {i j n : Nat} (h : i ≤ j) : (i = 0 ∧ j = n) ∨ (¬ (i = 0 ∧ j = n) ∧ i = j) ∨ (¬ (i = 0 ∧ j = n) ∧ i < j) := by omega
end LatP
end Jvm.Own
namespace Jvm.Own
open Jvm Jvm.ClassFile Sem Op Lib Jvm.Free Jvm.Stand Jvm.LawKit Jvm.RoadKit Bundle
section Lat
variable {p : Program} {l : Launch} {e : Env} {R : Room} {s : State} {m : MethodId} {args : Array Value} {below : List Frame} {meth : Method} {c : Code}
variable {bs : ByteArray} {ml : Nat} {ret : Option FieldType} {nm own : String} {Z : State} {a0 : Array Value} {EL : List (String × Nat)} {nw : Bool} {vm : Vm} {T T' : State} {h h' : Heap} {k n : Nat} {F : Outcome → State → Prop} {pc pc' : Nat} {Ls : Array Slot} {rest : List Value} {Q : Option Value → Heap → Prop}
theorem own_swN (ps r : List Int32) : narrow .boolean (.int (own_sw ps r)) = .int (own_sw ps r) := by
  unfold own_sw; split <;> rfl
theorem own_bys_sl (cs : List Int32) (i j : Nat) : bys (own_sl cs i j) = ((bys cs).take j).drop i := by simp [bys, own_sl]
theorem own_allSl {P : Int32 → Prop} {cs : List Int32} (i j : Nat) (q : ∀ c ∈ cs, P c) : ∀ c ∈ own_sl cs i j, P c := fun c hc => q c (List.mem_of_mem_take (List.mem_of_mem_drop hc))
theorem Core.acopySl (C : Core p l e R s m args below meth c bs ml ret nm own Z a0 EL nw vm T h k n) {ix : Nat} {a b : Addr} {k1 k2 : ClassId} {cs : List Int32} {i j W : Nat}
    (w1 : (Jvm.Cond.methodLink own ix Jvm.Stand.acN).before a0 Z = true) (w2 : (Jvm.Cond.native Jvm.Stand.acN).before a0 Z = true) (w3 : (Jvm.Cond.static Jvm.Stand.acN).before a0 Z = true) (w4 : (Jvm.Cond.initialized "java/lang/System").before a0 Z = true)
    (A : Arv Z h a k1 .byte (Int32.ofNat cs.length) (bys cs) (.int 0)) (B : Arv Z h b k2 .byte (Int32.ofNat (j - i)) [] (.int 0)) (h1 : i ≤ j) (h2 : j ≤ cs.length) (hc : cs.length ≤ 4000) (ge : Z.heap.size ≤ b) (sf : Safe Z EL vm h b) (hsz : Ls.size = ml) (hd : decode bs pc = .ok (.invokestatic ix, 3)) (hp : pc + 3 = pc')
    (hf : 1 ≤ R.frames) (hW : (rest.map fun v => v.category).sum ≤ W) (hlo : W + (nativeFrameWords "java/lang/System" "arraycopy" 5 + 11) ≤ R.locals)
    (K : ∀ T' h', Core p l e R s m args below meth c bs ml ret nm own Z a0 EL nw vm T' h' k n → Keep h h' [b] → CHr Z EL vm h vm h' → Arv Z h' b k2 .byte (Int32.ofNat (own_sl cs i j).length) (bys (own_sl cs i j)) (.int 0) → Endw p e below T' (mkF m pc' Ls rest) F) : Endw p e below T (mkF m pc Ls (.int (Int32.ofNat (j - i)) :: .int 0 :: .ref b :: .int (Int32.ofNat i) :: .ref a :: rest)) F := by
  have e1 : (Int32.ofNat i).toNatClampNeg = i := own_nc (by omega)
  have e2 : (Int32.ofNat (j - i)).toNatClampNeg = j - i := own_nc (by omega)
  have e3 : (Int32.ofNat cs.length).toNatClampNeg = cs.length := own_nc (by omega)
  have e0 : (0 : Int32).toNatClampNeg = 0 := by decide
  refine C.acopy (ty := .byte) (vr := bys (own_sl cs i j)) w1 w2 w3 w4 A (B.pad (vs' := [] ++ List.replicate (j - i) (.int 0)) (pad_rep _ _ _)) rfl (own_nn (by omega)) (by decide) (own_nn (by omega)) (by rw [e1, e2, e3]; omega) (by rw [e0, e2]; omega) (by rw [e0, e2]; simp) ?_ ge sf hsz hd hp hf hW hlo ?_
  · rw [e0, e1, e2]
    have q2 : (([] : List Value) ++ List.replicate (j - i) (Value.int 0)).drop (0 + (j - i)) = [] := by apply List.drop_eq_nil_of_le; simp
    rw [q2, List.take_zero, List.nil_append, List.append_nil]
    apply List.ext_getElem
    · simp [bys_len, own_sl_len h2]
    · intro u q1 q2
      simp only [List.getElem_map, List.getElem_range]
      have hu : u < j - i := by simpa using q1
      rw [List.getD_eq_getElem?_getD, List.getElem?_eq_getElem (by rw [bys_len]; omega)]
      simp [own_bys_sl]
  · intro T' h' C' Kp A' V'
    refine K T' h' C' Kp A' ?_
    rw [own_sl_len h2]; exact V'
theorem Core.getFR (C : Core p l e R s m args below meth c bs ml ret nm own Z a0 EL nw vm T h k n) {O nm' d : String} {ix : Nat} {a : Addr} {v : Value} (w : (Jvm.Cond.fieldRef own ix O nm' d).before a0 Z = true) (f : Fld Z h a O nm' d v) (hd : decode bs pc = .ok (.getfield ix, 3)) (hp : pc + 3 = pc')
    (K : Endw p e below T (mkF m pc' Ls (v :: rest)) F) : Endw p e below T (mkF m pc Ls (.ref a :: rest)) F := by
  subst hp
  obtain ⟨-, ⟨L, X, N⟩, -⟩ := id C
  have hT : Z.Warmed39 T.vm := wtrans (s := s.setVm vm) C.warm X.warmed
  have hc : (Z.setVm T.vm).vm.findClass own = some m.cls := by
    exact (X.warmed.alike.findClass own none).trans C.hown
  obtain ⟨cf, kf, i, fl, q1, q2⟩ := Cond.fieldRef_spec (s := Z.setVm T.vm) hc (Cond.fieldRef_warmed39 hT w)
  obtain ⟨cell, cf', k', i', f', h1, h2, h3, h4, -, -, h7⟩ := f
  obtain ⟨k'', hi, -⟩ := State.fieldFound?_setVm (s := Z) hT.alike h2
  cases q1.symm.trans hi
  refine Endw.st (fun t r => ?_) K
  have hcell : T.heap[a]? = some cell := by rw [C.heq]; exact h1
  have q2' : T.vm.fieldReady m.cls ix cf fl := q2
  have hdd := C.dec hd
  have hx := C.hx
  jvm_step X.here [hx, hdd, getfield.wp_ready (e := e) (s := T) (f := mkF m pc Ls (.ref a :: rest)) X.here.top q2' h3 rfl hcell h4 h7]
  exact r
theorem own_mvPub {s' : State} {as' : Array Value} {y : MethodName} (hZ : Z.Warmed39 s'.vm) (w : (Jvm.Cond.publicMethod y).before a0 Z = true) : (Jvm.Cond.publicMethod y).before as' s' = true := by
  have h1 : (Jvm.Cond.publicMethod y).before a0 (Z.setVm s'.vm) = true := Cond.rides hZ rfl w
  exact h1
theorem own_mvUnh {s' : State} {as' : Array Value} {C n d : String} (hZ : Z.Warmed39 s'.vm) (w : (Jvm.Cond.unhidden C n d).before a0 Z = true) : (Jvm.Cond.unhidden C n d).before as' s' = true := by
  have h1 : (Jvm.Cond.unhidden C n d).before a0 (Z.setVm s'.vm) = true := Cond.rides hZ rfl w
  exact h1
theorem own_mvFace {s' : State} {as' : Array Value} {A n d : String} (hA : A ≠ "java/lang/invoke/MethodHandle" ∧ A ≠ "java/lang/invoke/VarHandle") (hZ : Z.Warmed39 s'.vm) (w : (Jvm.Cond.interfaceMethod A A n d).before a0 Z = true) : (Jvm.Cond.interfaceMethod A A n d).before as' s' = true := by
  have h1 : (Jvm.Cond.interfaceMethod A A n d).before a0 (Z.setVm s'.vm) = true := Cond.rides hZ (by simp [Cond.keepsFace, Cond.keeps, Cond.faceAtom, hA.1, hA.2]) w
  exact h1
theorem Core.iface (C : Core p l e R s m args below meth c bs ml ret nm own Z a0 EL nw vm T h k n) {nw' : Bool} {y z : MethodName} {Cl : String} {ix cnt : Nat} {bytes : ByteArray} {mx : Nat} {rt : Option FieldType} {rm : Room} {xs : List Addr} {W : Nat} {a : Addr} {argsL st : List Value} {as' : Array Value}
    (w1 : (Jvm.Cond.methodLink own ix y).before a0 Z = true) (w2 : (Jvm.Cond.declares y).before a0 Z = true) (wf : (Jvm.Cond.interfaceMethod y.cls y.cls y.name y.desc).before a0 Z = true) (w5 : (Jvm.Cond.selects Cl y z).before a0 Z = true) (w6 : (Jvm.Cond.instanceMethod z).before a0 Z = true) (wp : (Jvm.Cond.publicMethod z).before a0 Z = true) (wu : (Jvm.Cond.unhidden Cl y.name y.desc).before a0 Z = true) (wc : (Jvm.Cond.castable Cl y.cls).before a0 Z = true) (w3 : (Jvm.Cond.code z bytes mx rt).before a0 Z = true) (w4 : (Jvm.Cond.initialized z.cls).before a0 Z = true) (hy : y.cls ≠ "java/lang/invoke/MethodHandle" ∧ y.cls ≠ "java/lang/invoke/VarHandle")
    (hM : Met l Z EL nw' z bytes mx rt [] rm as' h xs Q) (hnn : nw = true → nw' = true) (has : as' = (.ref a :: argsL).toArray) (E : Exa Z h a Cl) (hs : ∀ x ∈ xs, x < h.size ∧ Safe Z EL vm h x) (hf : rm.frames + 1 ≤ R.frames) (hl : W + (mx + 11) + rm.locals ≤ R.locals) (hk : k + rm.cells ≤ R.cells) (hn : n + rm.slots ≤ R.slots)
    (hlen : ∀ sig, parseMethodDescriptor y.desc = some sig → argsL.length = sig.parameters.length) (hst : st = argsL.reverse ++ .ref a :: rest) (hW : (rest.map fun v => v.category).sum ≤ W) (hsz : Ls.size = ml) (hd : decode bs pc = .ok (.invokeinterface ix cnt, 5)) (hp : pc + 5 = pc')
    (K : ∀ vm' T' h' v, Core p l e R s m args below meth c bs ml ret nm own Z a0 EL nw vm' T' h' (k + rm.cells) (n + rm.slots) → CHr Z EL vm h vm' h' → (nw' = true → ∀ y, Bk Z EL vm' h' y → Bk Z EL vm h y) → Q v h' → Endw p e below T' (mkF m pc' Ls (v.toList ++ rest)) F) : Endw p e below T (mkF m pc Ls st) F := by
  subst hp has
  obtain ⟨-, ⟨L, X, N⟩, -⟩ := id C
  obtain ⟨cq, kq, qa, qb, qc⟩ := isOf (s := s.setVm vm) C.warm C.heq E
  obtain ⟨v, vm₁, B, -, X', h2, -, ⟨L', ⟨q1, q2, q3⟩, e1, e2, e3, A, M⟩, st'⟩ := X.interfaceBackS C.hx (xi := y) (y := z) C.hown (mvT C.warm w1) (mvT C.warm w2) (own_mvFace (s' := s.setVm vm) hy C.warm wf) (mvT C.warm w5) (mvT C.warm w6) (own_mvPub (s' := s.setVm vm) C.warm wp) (own_mvUnh (s' := s.setVm vm) C.warm wu) (mvT C.warm wc) hy (backOwn (W := W) hM C.warm w3 w4 hf hl C.ew C.chv hs) qa qb qc (g := mkF m pc Ls st) rfl (hsz.trans C.mlq.symm) (Steps.refl _) (argsL := argsL) (rest := rest) hlen hst (by show 2 * 0 + _ ≤ _; omega) (C.dec hd) (fun _ _ => ⟨rfl, C.heq, hk, hn⟩)
  exact Endw.ste st' (K _ _ _ v (C.behind X' h2 N q2 q3 e1 e2 e3 A (fun z => M (hnn z))) A (fun z => (M z).2) q1)
end Lat
end Jvm.Own
namespace Jvm.Own
section Iri
def own_qm (cs : List Int32) : Nat := if own_ix 63 cs < own_ix 35 cs then own_ix 63 cs else own_ix 35 cs
def own_se (cs : List Int32) : Nat := own_sc (cs.take (own_qm cs))
def own_hsB (cs : List Int32) : Prop := 0 < own_se cs ∧ own_se cs < own_qm cs ∧ cs.getD (own_se cs) 0 = 58
instance (cs : List Int32) : Decidable (own_hsB cs) := inferInstanceAs (Decidable (_ ∧ _ ∧ _))
def own_hs (cs : List Int32) : Nat := if own_hsB cs then own_se cs + 1 else 0
def own_auB (cs : List Int32) : Prop := own_pre [47, 47] (cs.drop (own_hs cs)) = true
instance (cs : List Int32) : Decidable (own_auB cs) := inferInstanceAs (Decidable (_ = true))
def own_sx (cs : List Int32) : Nat := own_hs cs + 2 + own_ix 47 (cs.drop (own_hs cs + 2))
def own_ps (cs : List Int32) : Nat := if own_auB cs then (if own_sx cs < own_qm cs then own_sx cs else own_qm cs) else own_hs cs
def own_sch (cs : List Int32) : Option (List Int32) := if own_hsB cs then some (own_sl cs 0 (own_se cs)) else none
def own_aut (cs : List Int32) : Option (List Int32) := if own_auB cs then some (own_sl cs (own_hs cs + 2) (own_ps cs)) else none
def own_pth (cs : List Int32) : List Int32 := own_sl cs (own_ps cs) (own_qm cs)
def own_qry (cs : List Int32) : Option (List Int32) := if own_qm cs < own_ix 35 cs then some (own_sl cs (own_qm cs + 1) (own_ix 35 cs)) else none
def own_frg (cs : List Int32) : Option (List Int32) := if own_ix 35 cs < cs.length then some (own_sl cs (own_ix 35 cs + 1) cs.length) else none
theorem own_qm_fm (cs : List Int32) : own_qm cs ≤ own_ix 35 cs := by unfold own_qm; split <;> omega
theorem own_qm_le (cs : List Int32) : own_qm cs ≤ cs.length := Nat.le_trans (own_qm_fm cs) (own_ix_le 35 cs)
theorem own_qm_get {cs : List Int32} (h : own_qm cs < cs.length) : cs.getD (own_qm cs) 0 = 63 ∨ cs.getD (own_qm cs) 0 = 35 := by
  unfold own_qm at h ⊢
  split at h
  · rename_i q; rw [if_pos q]; exact Or.inl (own_ix_get (by omega))
  · rename_i q; rw [if_neg q]; exact Or.inr (own_ix_get h)
theorem own_se_le (cs : List Int32) : own_se cs ≤ own_qm cs := by
  have := own_sc_le (cs.take (own_qm cs)); rw [List.length_take, Nat.min_eq_left (own_qm_le cs)] at this; exact this
theorem own_hs_le (cs : List Int32) : own_hs cs ≤ own_qm cs := by
  unfold own_hs; split
  · rename_i h; have := h.2.1; omega
  · omega
theorem own_pre2 {r : List Int32} (h : own_pre [47, 47] r = true) : ∃ r', r = 47 :: 47 :: r' := by
  match r, h with
  | [], h => cases h
  | [x], h =>
    rw [own_pre] at h; split at h
    · cases h
    · cases h
  | x :: y :: r', h =>
    rw [own_pre] at h; split at h
    · rename_i e; subst e
      rw [own_pre] at h; split at h
      · rename_i e; subst e; exact ⟨r', rfl⟩
      · cases h
    · cases h
theorem own_dropGet {cs r : List Int32} {i n : Nat} {x : Int32} (h : cs.drop i = r) (hx : r[n]? = some x) : cs.getD (i + n) 0 = x ∧ i + n < cs.length := by
  subst h
  rw [List.getElem?_drop] at hx
  exact ⟨by rw [List.getD_eq_getElem?_getD, hx]; rfl, (List.getElem?_eq_some_iff.mp hx).1⟩
theorem own_auQ {cs : List Int32} (h : own_auB cs) : own_hs cs + 2 ≤ own_qm cs ∧ cs.getD (own_hs cs) 0 = 47 ∧ cs.getD (own_hs cs + 1) 0 = 47 := by
  obtain ⟨r', e⟩ := own_pre2 h
  have a0 := own_dropGet (n := 0) e rfl
  have a1 := own_dropGet (n := 1) e rfl
  have hh := own_hs_le cs
  refine ⟨?_, a0.1, a1.1⟩
  have hlt := a1.2
  by_cases q0 : own_qm cs = own_hs cs
  · have := own_qm_get (cs := cs) (by omega)
    rw [q0] at this; rw [show own_hs cs + 0 = own_hs cs from rfl] at a0; rw [a0.1] at this; rcases this with h | h <;> exact absurd h (by decide)
  · by_cases q1 : own_qm cs = own_hs cs + 1
    · have := own_qm_get (cs := cs) (by omega)
      rw [q1, a1.1] at this; rcases this with h | h <;> exact absurd h (by decide)
    · omega
theorem own_ps_le (cs : List Int32) : own_ps cs ≤ own_qm cs := by
  unfold own_ps; split
  · split <;> omega
  · exact own_hs_le cs
theorem own_ps_ge {cs : List Int32} (h : own_auB cs) : own_hs cs + 2 ≤ own_ps cs := by
  unfold own_ps; rw [if_pos h]
  have := (own_auQ h).1
  split
  · unfold own_sx; omega
  · exact this
theorem own_scStep {ts r : List Int32} {j : Nat} {x : Int32} (hD : own_sc ts = j + own_sc (ts.drop j)) (ec : ts.drop j = x :: r) (n1 : ¬ x = 58) (n2 : ¬ x = 47) : own_sc ts = (j + 1) + own_sc (ts.drop (j + 1)) := by
  have e : ts.drop (j + 1) = r := by rw [← List.drop_drop, ec]; rfl
  rw [hD, ec, e, own_sc, if_neg n1, if_neg n2]; omega
theorem own_scY {ts r : List Int32} {j : Nat} {x : Int32} (hD : own_sc ts = j + own_sc (ts.drop j)) (ec : ts.drop j = x :: r) (h : x = 58 ∨ x = 47) : own_sc ts = j := by
  rw [hD, ec, own_sc]
  rcases h with h | h
  · rw [if_pos h]; rfl
  · by_cases q : x = 58
    · rw [if_pos q]; rfl
    · rw [if_neg q, if_pos h]; rfl
theorem own_scE {ts : List Int32} {j : Nat} (hD : own_sc ts = j + own_sc (ts.drop j)) (h : ts.length ≤ j) : own_sc ts = j := by
  rw [hD, List.drop_eq_nil_of_le h]; rfl
theorem own_sepN {x z : Int32} (h : own_fnd x [58, 47] 0 z) (hz : z = -1) : ¬ x = 58 ∧ ¬ x = 47 := by
  rcases h with ⟨h1, h2⟩ | ⟨h1, -⟩
  · exfalso
    have e : (Int32.ofNat (0 + own_ix x (List.drop 0 [58, 47]))) = -1 := h2.symm.trans hz
    have h1' : own_ix x (List.drop 0 [58, 47]) < 2 := by simpa using h1
    generalize own_ix x (List.drop 0 [58, 47]) = n at e h1'
    match n, h1' with
    | 0, _ => exact absurd e (by decide)
    | 1, _ => exact absurd e (by decide)
  · constructor
    · rintro rfl; exact absurd h1 (by decide)
    · rintro rfl; exact absurd h1 (by decide)
theorem own_fnd0 {ch z : Int32} {cs : List Int32} (h : own_fnd ch cs 0 z) : (own_ix ch cs < cs.length ∧ z = Int32.ofNat (own_ix ch cs)) ∨ (own_ix ch cs = cs.length ∧ z = -1) := by
  unfold own_fnd at h; rw [Nat.zero_add] at h; exact h
theorem own_sepF {x z : Int32} (h : own_fnd x [58, 47] 0 z) : (¬ z < 0 ∧ (x = 58 ∨ x = 47)) ∨ (z = -1 ∧ ¬ x = 58 ∧ ¬ x = 47) := by
  rcases id h with ⟨h1, h2⟩ | ⟨-, h2⟩
  · refine Or.inl ⟨?_, ?_⟩
    · have h1' : own_ix x (List.drop 0 [58, 47]) < 2 := by simpa using h1
      rw [h2]
      generalize own_ix x (List.drop 0 [58, 47]) = n at h1'
      match n, h1' with
      | 0, _ => decide
      | 1, _ => decide
    · by_cases q1 : x = 58
      · exact Or.inl q1
      · by_cases q2 : x = 47
        · exact Or.inr q2
        · exfalso
          have e : own_ix x (List.drop 0 [58, 47]) = 2 := by
            show own_ix x [58, 47] = 2
            rw [own_ix, if_neg (Ne.symm q1), own_ix, if_neg (Ne.symm q2)]; rfl
          rw [e] at h1; exact absurd h1 (by decide)
  · exact Or.inr ⟨h2, own_sepN h h2⟩
theorem own_takeD {cs : List Int32} {j k : Nat} (h : j < k) : (cs.take k).getD j 0 = cs.getD j 0 := by
  rw [List.getD_eq_getElem?_getD, List.getElem?_take, if_pos h, List.getD_eq_getElem?_getD]
theorem own_fndC {ch z : Int32} {cs : List Int32} {f : Nat} (h : own_fnd ch cs f z) : (f + own_ix ch (cs.drop f) < cs.length ∧ z = Int32.ofNat (f + own_ix ch (cs.drop f))) ∨ (f + own_ix ch (cs.drop f) = cs.length ∧ z = -1) := h
theorem own_iri {cs : List Int32} (h0 : 0 < own_ix 58 cs) (h1 : own_ix 58 cs < own_ix 47 cs) (h2 : own_ix 58 cs < own_qm cs) : own_se cs = own_ix 58 cs ∧ own_hsB cs ∧ own_hs cs = own_ix 58 cs + 1 := by
  have e : own_se cs = own_ix 58 cs := own_sc_eq h1 h2
  have q : own_hsB cs := by
    refine ⟨by omega, by omega, ?_⟩
    rw [e]; exact own_ix_get (Nat.lt_of_lt_of_le h2 (own_qm_le cs))
  exact ⟨e, q, by rw [own_hs, if_pos q, e]⟩
theorem own_headB {cs : List Int32} (hB : own_hsB cs) : own_sl cs 0 (own_se cs) ++ [58] ++ own_oa (own_aut cs) = own_sl cs 0 (own_ps cs) := by
  have hl := own_qm_le cs
  have hq := own_ps_le cs
  have hs : own_hs cs = own_se cs + 1 := by rw [own_hs, if_pos hB]
  by_cases hA : own_auB cs
  · obtain ⟨q1, q2, q3⟩ := own_auQ hA
    have hp := own_ps_ge hA
    rw [own_aut, if_pos hA, hs]
    rw [hs] at q1 q2 q3 hp
    exact own_headA (by have := hB.2.1; omega) hB.2.2 q2 q3 (by omega) (by omega)
  · rw [own_aut, if_neg hA, own_ps, if_neg hA, hs]
    exact own_headN (by have := hB.2.1; omega) hB.2.2
theorem own_tailQ (cs : List Int32) : own_oc 63 (own_qry cs) = own_sl cs (own_qm cs) (own_ix 35 cs) := by
  refine own_tail (own_qm_fm cs) (own_ix_le 35 cs) fun h => ?_
  unfold own_qm at h ⊢
  split at h
  · rename_i q; rw [if_pos q]; exact own_ix_get (Nat.lt_of_lt_of_le h (own_ix_le 35 cs))
  · omega
theorem own_r0 {cs : List Int32} (hB : own_hsB cs) : own_txt (own_sl cs 0 (own_se cs)) (own_aut cs) (own_pth cs) (own_qry cs) none = own_sl cs 0 (own_ix 35 cs) := by
  rw [own_txt, own_headB hB, own_pth, own_sl_app (Nat.zero_le _) (own_ps_le cs), own_tailQ, own_sl_app (Nat.zero_le _) (own_qm_fm cs)]
  exact List.append_nil _
theorem own_r1 {cs : List Int32} (hB : own_hsB cs) : own_txt (own_sl cs 0 (own_se cs)) (own_aut cs) (own_pth cs) (some []) none = own_sl cs 0 (own_qm cs) ++ [63] := by
  rw [own_txt, own_headB hB, own_pth, own_sl_app (Nat.zero_le _) (own_ps_le cs)]
  exact List.append_nil _
theorem own_r2 {cs : List Int32} (hB : own_hsB cs) : own_txt (own_sl cs 0 (own_se cs)) (own_aut cs) [47, 121] none none = own_sl cs 0 (own_ps cs) ++ [47, 121] := by
  rw [own_txt, own_headB hB]
  simp [own_oc]
theorem own_r3 {cs : List Int32} (hB : own_hsB cs) : own_txt (own_sl cs 0 (own_se cs)) (some [120]) [] none none = own_sl cs 0 (own_se cs + 1) ++ [47, 47, 120] := by
  have := own_headN (cs := cs) (colon := own_se cs) (by have := own_qm_le cs; have := hB.2.1; omega) hB.2.2
  rw [own_oa, List.append_nil] at this
  rw [own_txt, this]
  simp [own_oc, own_oa]
theorem own_noSl {cs : List Int32} (h : ¬ own_auB cs) : own_sw [47, 47] ((own_pth cs).drop 0) = 0 := by
  rw [own_sw, if_neg]
  intro q
  apply h
  obtain ⟨r', e⟩ := own_pre2 q
  rw [List.drop_zero] at e
  have hps : own_ps cs = own_hs cs := by rw [own_ps, if_neg h]
  rw [own_pth, hps, own_sl] at e
  unfold own_auB
  have e0 : ((cs.take (own_qm cs)).drop (own_hs cs))[0]? = some 47 := by rw [e]; rfl
  have e1 : ((cs.take (own_qm cs)).drop (own_hs cs))[1]? = some 47 := by rw [e]; rfl
  rw [List.getElem?_drop, List.getElem?_take] at e0 e1
  split at e0
  · split at e1
    · obtain ⟨l1, l2⟩ := List.getElem?_eq_some_iff.mp e0
      obtain ⟨l3, l4⟩ := List.getElem?_eq_some_iff.mp e1
      rw [List.drop_eq_getElem_cons (by omega), List.drop_eq_getElem_cons (by omega)]
      simp only [Nat.add_zero] at l2
      rw [l2, l4]; rfl
    · cases e1
  · cases e0
end Iri
end Jvm.Own
namespace Jvm.Own
section Iri2
theorem own_plen {cs b : List Int32} {j : Nat} (h : j ≤ cs.length) : (own_sl cs 0 j ++ b).length = j + b.length := by
  rw [List.length_append, own_sl_len h, Nat.sub_zero]
theorem own_pfx {cs b : List Int32} {j : Nat} (h : j ≤ cs.length) : ∀ i, i < j → (own_sl cs 0 j ++ b).getD i 0 = cs.getD i 0 := fun i hi => by
  have e : (own_sl cs 0 j).length = j := by rw [own_sl_len h, Nat.sub_zero]
  have q := own_sl_get (cs := cs) (i := 0) (j := j) (n := i) (by omega) h
  rw [Nat.zero_add] at q
  rw [← q, List.getD_eq_getElem?_getD, List.getD_eq_getElem?_getD, List.getElem?_append_left (by omega)]
theorem own_sfx {cs b : List Int32} {j : Nat} (h : j ≤ cs.length) (n : Nat) : (own_sl cs 0 j ++ b).getD (j + n) 0 = b.getD n 0 := by
  have e : (own_sl cs 0 j).length = j := by rw [own_sl_len h, Nat.sub_zero]
  rw [List.getD_eq_getElem?_getD, List.getD_eq_getElem?_getD, List.getElem?_append_right (by omega), e, Nat.add_sub_cancel_left]
theorem own_sfx0 {cs b : List Int32} {j : Nat} (h : j ≤ cs.length) : (own_sl cs 0 j ++ b).getD j 0 = b.getD 0 0 := own_sfx h 0
theorem own_le6 {k : Nat} (h : k ≤ 6) : k = 0 ∨ k = 1 ∨ k = 2 ∨ k = 3 ∨ k = 4 ∨ k = 5 ∨ k = 6 := by omega
theorem own_nil_app (cs : List Int32) : own_sl cs 0 (own_ix 35 cs) = own_sl cs 0 (own_ix 35 cs) ++ [] := (List.append_nil _).symm
theorem own_minN {a b : Nat} (ha : a ≤ 4000) (hb : b ≤ 4000) : (if Int32.ofNat b < Int32.ofNat a then Int32.ofNat b else Int32.ofNat a) = Int32.ofNat (if a < b then a else b) := by
  have e : Int32.ofNat b < Int32.ofNat a ↔ b < a := by rw [Int32.lt_iff_toInt_lt, own_ti (by omega), own_ti (by omega)]; omega
  by_cases q : b < a
  · rw [if_pos (e.mpr q), if_neg (by omega)]
  · rw [if_neg (fun z => q (e.mp z))]
    by_cases q2 : a < b
    · rw [if_pos q2]
    · rw [if_neg q2, show a = b by omega]
theorem own_auOf {cs : List Int32} (h : own_hs cs + 2 ≤ cs.length) (h0 : cs.getD (own_hs cs) 0 = 47) (h1 : cs.getD (own_hs cs + 1) 0 = 47) : own_auB cs := by
  unfold own_auB
  rw [List.getD_eq_getElem?_getD, List.getElem?_eq_getElem (by omega)] at h0 h1
  rw [List.drop_eq_getElem_cons (by omega), List.drop_eq_getElem_cons (by omega)]
  have e0 : cs[own_hs cs] = 47 := h0
  have e1 : cs[own_hs cs + 1] = 47 := h1
  rw [e0, e1]; rfl
end Iri2
end Jvm.Own
namespace Jvm.Own
open Jvm Jvm.ClassFile Sem Op Lib Jvm.Free Jvm.Stand Jvm.LawKit Jvm.RoadKit Bundle
section IriJ
variable {Z : State} {h h' : Heap}
def OS (Z : State) (h : Heap) (v : Value) : Option (List Int32) → Prop
  | none => v = .null
  | some cs => ∃ (s t : Addr) (kb : ClassId), v = .ref s ∧ Str Z h s t kb cs
theorem OS.mk {s t : Addr} {kb : ClassId} {cs : List Int32} (S : Str Z h s t kb cs) : OS Z h (.ref s) (some cs) := ⟨s, t, kb, rfl, S⟩
theorem OS.nil : OS Z h .null none := rfl
theorem OS.ref {v : Value} {o : Option (List Int32)} (O : OS Z h v o) : v.isRef = true := by
  cases o with
  | none => rw [show v = .null from O]; rfl
  | some cs => obtain ⟨s, t, kb, rfl, -⟩ := O; rfl
theorem OS.keep {v : Value} {o : Option (List Int32)} (O : OS Z h v o) (K : Keep h h' []) : OS Z h' v o := by
  cases o with
  | none => exact O
  | some cs => obtain ⟨s, t, kb, e, S⟩ := O; exact ⟨s, t, kb, e, S.keep K nin0 nin0⟩
theorem OS.cases {v : Value} {o : Option (List Int32)} (O : OS Z h v o) : (o = none ∧ v = .null) ∨ ∃ (s t : Addr) (kb : ClassId) (cs : List Int32), o = some cs ∧ v = .ref s ∧ Str Z h s t kb cs := by
  cases o with
  | none => exact Or.inl ⟨rfl, O⟩
  | some cs => obtain ⟨s, t, kb, e, S⟩ := O; exact Or.inr ⟨s, t, kb, cs, rfl, e, S⟩
theorem OS.isNone {v : Value} (O : OS Z h v none) : v = .null := O
theorem OS.isSome {v : Value} {cs : List Int32} (O : OS Z h v (some cs)) : ∃ (s t : Addr) (kb : ClassId), v = .ref s ∧ Str Z h s t kb cs := O
def Cmp (Z : State) (h : Heap) (x : Addr) (sch aut : Option (List Int32)) (pth : List Int32) (qry frg : Option (List Int32)) : Prop :=
  ∃ (v0 v1 : Value) (s2 t2 : Addr) (k2 : ClassId) (v3 v4 : Value), Exa Z h x "com/example/quadrille/quadrille/rdf/BaseIri$Components" ∧ Fld Z h x "com/example/quadrille/quadrille/rdf/BaseIri$Components" "scheme" "Ljava/lang/String;" v0 ∧ Fld Z h x "com/example/quadrille/quadrille/rdf/BaseIri$Components" "authority" "Ljava/lang/String;" v1 ∧ Fld Z h x "com/example/quadrille/quadrille/rdf/BaseIri$Components" "path" "Ljava/lang/String;" (.ref s2) ∧ Fld Z h x "com/example/quadrille/quadrille/rdf/BaseIri$Components" "query" "Ljava/lang/String;" v3 ∧ Fld Z h x "com/example/quadrille/quadrille/rdf/BaseIri$Components" "fragment" "Ljava/lang/String;" v4 ∧
    OS Z h v0 sch ∧ OS Z h v1 aut ∧ Str Z h s2 t2 k2 pth ∧ OS Z h v3 qry ∧ OS Z h v4 frg
theorem Cmp.keep {x : Addr} {sch aut : Option (List Int32)} {pth : List Int32} {qry frg : Option (List Int32)} (M : Cmp Z h x sch aut pth qry frg) (K : Keep h h' []) : Cmp Z h' x sch aut pth qry frg := by
  obtain ⟨v0, v1, s2, t2, k2, v3, v4, E, F0, F1, F2, F3, F4, O0, O1, S2, O3, O4⟩ := M
  exact ⟨v0, v1, s2, t2, k2, v3, v4, E.keep K, F0.keep K nin0, F1.keep K nin0, F2.keep K nin0, F3.keep K nin0, F4.keep K nin0, O0.keep K, O1.keep K, S2.keep K nin0 nin0, O3.keep K, O4.keep K⟩
theorem Cmp.exa {x : Addr} {sch aut : Option (List Int32)} {pth : List Int32} {qry frg : Option (List Int32)} (M : Cmp Z h x sch aut pth qry frg) : Exa Z h x "com/example/quadrille/quadrille/rdf/BaseIri$Components" := by
  obtain ⟨v0, v1, s2, t2, k2, v3, v4, E, -⟩ := M; exact E
theorem own_staRef {s : State} {args args' : Array Value} {C n d : String} {ty : FieldType} (hF : s.Fit) (w : (Jvm.Cond.laysStatic C n d).before args s = true) (wi : (Jvm.Cond.initialized C).before args' s = true) (hd : parseFieldDescriptor d = some ty) (hr : refSort ty = true) : ∃ v : Value, Sta s s.heap C n d v ∧ v.isRef = true := by
  obtain ⟨c, k, i, f, a, cell, hc, hf, hst, ha, hcell, hs, hcls, hlt, hty⟩ := Cond.laysStatic_spec w
  have hk : s.vm.classes[c]? = some k := (State.fieldFound?_spec hf).1
  have hv : cell.slots[f.slot]? = some cell.slots[f.slot] := Array.getElem?_eq_getElem hlt
  have h1 := hF _ _ hcell _ _ hv
  have h2 : fits ty cell.slots[f.slot] = true := by
    have htt := (State.fieldFound?_type hf hd).2
    cases hvm : cell.vm with
    | statics x => simpa [State.fitsSlot, State.slotType?, hcls, hk, hvm, hty, htt] using h1
    | _ => simp [hvm, VmData.isStatics] at hs
  refine ⟨_, ⟨c, i, k, f, a, cell, hf, hst, Cond.initialized_spec hc hk wi, ha, hcell, hs, hv⟩, ?_⟩
  rcases fits_refSort hr h2 with e | ⟨x, e⟩ <;> rw [e] <;> rfl
end IriJ
end Jvm.Own
namespace Jvm.Own
open Jvm Jvm.ClassFile Sem Op Lib Jvm.Free Jvm.Stand Jvm.LawKit Jvm.RoadKit Bundle
section Short
variable {p : Program} {l : Launch} {e : Env} {R : Room} {s : State} {m : MethodId} {args : Array Value} {below : List Frame} {meth : Method} {c : Code}
variable {bs : ByteArray} {ml : Nat} {ret : Option FieldType} {nm own : String} {Z : State} {a0 : Array Value} {EL : List (String × Nat)} {nw : Bool} {vm : Vm} {T : State} {h : Heap} {k n : Nat} {F : Outcome → State → Prop} {pc pc' : Nat} {Ls l' : Array Slot} {rest : List Value} {v : Value} {x y z : Int32} {i : Int} {o : Int} {cd : ClassFile.Cond}
theorem Core.aL (C : Core p l e R s m args below meth c bs ml ret nm own Z a0 EL nw vm T h k n) {j} (hd : decode bs pc = .ok (.aload_n j, 1)) (hl : Ls[j.val]? = some (.val v)) (hv : v.isRef = true) (K : Endw p e below T (mkF m (pc + 1) Ls (v :: rest)) F) : Endw p e below T (mkF m pc Ls rest) F :=
  Endw.st (fun _ r => XS.aloadN (g := mkF m pc Ls rest) C.here C.hx rfl (C.dec hd) hl hv r) K
theorem Core.aLk (C : Core p l e R s m args below meth c bs ml ret nm own Z a0 EL nw vm T h k n) {j : Nat} (hd : decode bs pc = .ok (.aload j, 2)) (hl : Ls[j]? = some (.val v)) (hv : v.isRef = true) (K : Endw p e below T (mkF m (pc + 2) Ls (v :: rest)) F) : Endw p e below T (mkF m pc Ls rest) F :=
  Endw.st (fun _ r => XS.aload (g := mkF m pc Ls rest) C.here C.hx rfl (C.dec hd) hl hv r) K
theorem Core.iL (C : Core p l e R s m args below meth c bs ml ret nm own Z a0 EL nw vm T h k n) {j} (hd : decode bs pc = .ok (.iload_n j, 1)) (hl : Ls[j.val]? = some (.val (.int x))) (K : Endw p e below T (mkF m (pc + 1) Ls (.int x :: rest)) F) : Endw p e below T (mkF m pc Ls rest) F :=
  Endw.st (fun _ r => XS.iloadN (g := mkF m pc Ls rest) C.here C.hx rfl (C.dec hd) hl r) K
theorem Core.iLk (C : Core p l e R s m args below meth c bs ml ret nm own Z a0 EL nw vm T h k n) {j : Nat} (hd : decode bs pc = .ok (.iload j, 2)) (hl : Ls[j]? = some (.val (.int x))) (K : Endw p e below T (mkF m (pc + 2) Ls (.int x :: rest)) F) : Endw p e below T (mkF m pc Ls rest) F :=
  Endw.st (fun _ r => XS.iload (g := mkF m pc Ls rest) C.here C.hx rfl (C.dec hd) hl r) K
theorem Core.ic (C : Core p l e R s m args below meth c bs ml ret nm own Z a0 EL nw vm T h k n) (hd : decode bs pc = .ok (.iconst i, 1)) (hz : Int32.ofInt i = z) (K : Endw p e below T (mkF m (pc + 1) Ls (.int z :: rest)) F) : Endw p e below T (mkF m pc Ls rest) F :=
  Endw.st (fun _ r => XS.iconst (g := mkF m pc Ls rest) C.here C.hx rfl (C.dec hd) (hz ▸ r)) K
theorem Core.bi (C : Core p l e R s m args below meth c bs ml ret nm own Z a0 EL nw vm T h k n) (hd : decode bs pc = .ok (.bipush i, 2)) (hz : (Int8.ofInt i).toInt32 = z) (K : Endw p e below T (mkF m (pc + 2) Ls (.int z :: rest)) F) : Endw p e below T (mkF m pc Ls rest) F :=
  Endw.st (fun _ r => XS.bipush (g := mkF m pc Ls rest) C.here C.hx rfl (C.dec hd) (hz ▸ r)) K
theorem Core.si (C : Core p l e R s m args below meth c bs ml ret nm own Z a0 EL nw vm T h k n) (hd : decode bs pc = .ok (.sipush i, 3)) (hz : (Int16.ofInt i).toInt32 = z) (K : Endw p e below T (mkF m (pc + 3) Ls (.int z :: rest)) F) : Endw p e below T (mkF m pc Ls rest) F :=
  Endw.st (fun _ r => XS.sipush (g := mkF m pc Ls rest) C.here C.hx rfl (C.dec hd) (hz ▸ r)) K
theorem Core.nu (C : Core p l e R s m args below meth c bs ml ret nm own Z a0 EL nw vm T h k n) (hd : decode bs pc = .ok (.aconst_null, 1)) (K : Endw p e below T (mkF m (pc + 1) Ls (.null :: rest)) F) : Endw p e below T (mkF m pc Ls rest) F :=
  Endw.st (fun _ r => XS.aconstNull (g := mkF m pc Ls rest) C.here C.hx rfl (C.dec hd) r) K
theorem Core.du (C : Core p l e R s m args below meth c bs ml ret nm own Z a0 EL nw vm T h k n) (hd : decode bs pc = .ok (.dup, 1)) (hc : v.category = 1) (K : Endw p e below T (mkF m (pc + 1) Ls (v :: v :: rest)) F) : Endw p e below T (mkF m pc Ls (v :: rest)) F :=
  Endw.st (fun _ r => XS.dup (g := mkF m pc Ls (v :: rest)) C.here C.hx rfl (C.dec hd) rfl hc r) K
theorem Core.fN (C : Core p l e R s m args below meth c bs ml ret nm own Z a0 EL nw vm T h k n) (hd : decode bs pc = .ok (.ifCond cd o, 3)) (hc : ifCond.holds cd x = false) (K : Endw p e below T (mkF m (pc + 3) Ls rest) F) : Endw p e below T (mkF m pc Ls (.int x :: rest)) F :=
  Endw.st (fun _ r => XS.ifNo (g := mkF m pc Ls (.int x :: rest)) C.here C.hx rfl (C.dec hd) rfl hc r) K
theorem Core.fY (C : Core p l e R s m args below meth c bs ml ret nm own Z a0 EL nw vm T h k n) (hd : decode bs pc = .ok (.ifCond cd o, 3)) (hc : ifCond.holds cd x = true) (ho : 0 ≤ (pc : Int) + o) (hp : ((pc : Int) + o).toNat = pc') (K : Endw p e below T (mkF m pc' Ls rest) F) : Endw p e below T (mkF m pc Ls (.int x :: rest)) F :=
  Endw.st (fun _ r => XS.ifYes (g := mkF m pc Ls (.int x :: rest)) C.here C.hx rfl rfl (C.dec hd) rfl hc ho hp r) K
theorem Core.cN (C : Core p l e R s m args below meth c bs ml ret nm own Z a0 EL nw vm T h k n) (hd : decode bs pc = .ok (.if_icmp cd o, 3)) (hc : if_icmp.holds cd x y = false) (K : Endw p e below T (mkF m (pc + 3) Ls rest) F) : Endw p e below T (mkF m pc Ls (.int y :: .int x :: rest)) F :=
  Endw.st (fun _ r => XS.icmpNo (g := mkF m pc Ls (.int y :: .int x :: rest)) C.here C.hx rfl (C.dec hd) rfl hc r) K
theorem Core.cY (C : Core p l e R s m args below meth c bs ml ret nm own Z a0 EL nw vm T h k n) (hd : decode bs pc = .ok (.if_icmp cd o, 3)) (hc : if_icmp.holds cd x y = true) (ho : 0 ≤ (pc : Int) + o) (hp : ((pc : Int) + o).toNat = pc') (K : Endw p e below T (mkF m pc' Ls rest) F) : Endw p e below T (mkF m pc Ls (.int y :: .int x :: rest)) F :=
  Endw.st (fun _ r => XS.icmpYes (g := mkF m pc Ls (.int y :: .int x :: rest)) C.here C.hx rfl rfl (C.dec hd) rfl hc ho hp r) K
theorem Core.go (C : Core p l e R s m args below meth c bs ml ret nm own Z a0 EL nw vm T h k n) (hd : decode bs pc = .ok (.goto o, 3)) (ho : 0 ≤ (pc : Int) + o) (hp : ((pc : Int) + o).toNat = pc') (K : Endw p e below T (mkF m pc' Ls rest) F) : Endw p e below T (mkF m pc Ls rest) F :=
  Endw.st (fun _ r => XS.goto (g := mkF m pc Ls rest) C.here C.hx rfl rfl (C.dec hd) ho hp r) K
theorem Core.iS (C : Core p l e R s m args below meth c bs ml ret nm own Z a0 EL nw vm T h k n) {j} (hd : decode bs pc = .ok (.istore_n j, 1)) (hl : storeLocals Ls j.val (.int x) = some l') (K : Endw p e below T (mkF m (pc + 1) l' rest) F) : Endw p e below T (mkF m pc Ls (.int x :: rest)) F :=
  Endw.st (fun _ r => XS.istoreN (g := mkF m pc Ls (.int x :: rest)) C.here C.hx rfl (C.dec hd) rfl hl r) K
theorem Core.iSk (C : Core p l e R s m args below meth c bs ml ret nm own Z a0 EL nw vm T h k n) {j : Nat} (hd : decode bs pc = .ok (.istore j, 2)) (hl : storeLocals Ls j (.int x) = some l') (K : Endw p e below T (mkF m (pc + 2) l' rest) F) : Endw p e below T (mkF m pc Ls (.int x :: rest)) F :=
  Endw.st (fun _ r => XS.istore (g := mkF m pc Ls (.int x :: rest)) C.here C.hx rfl (C.dec hd) rfl hl r) K
theorem Core.aS (C : Core p l e R s m args below meth c bs ml ret nm own Z a0 EL nw vm T h k n) {j} (hd : decode bs pc = .ok (.astore_n j, 1)) (hv : v.isRef = true) (hl : storeLocals Ls j.val v = some l') (K : Endw p e below T (mkF m (pc + 1) l' rest) F) : Endw p e below T (mkF m pc Ls (v :: rest)) F :=
  Endw.st (fun _ r => XS.astoreN (g := mkF m pc Ls (v :: rest)) C.here C.hx rfl (C.dec hd) rfl hv hl r) K
theorem Core.aSk (C : Core p l e R s m args below meth c bs ml ret nm own Z a0 EL nw vm T h k n) {j : Nat} (hd : decode bs pc = .ok (.astore j, 2)) (hv : v.isRef = true) (hl : storeLocals Ls j v = some l') (K : Endw p e below T (mkF m (pc + 2) l' rest) F) : Endw p e below T (mkF m pc Ls (v :: rest)) F :=
  Endw.st (fun _ r => XS.astore (g := mkF m pc Ls (v :: rest)) C.here C.hx rfl (C.dec hd) rfl hv hl r) K
theorem Core.ad (C : Core p l e R s m args below meth c bs ml ret nm own Z a0 EL nw vm T h k n) (hd : decode bs pc = .ok (.iadd, 1)) (hz : x + y = z) (K : Endw p e below T (mkF m (pc + 1) Ls (.int z :: rest)) F) : Endw p e below T (mkF m pc Ls (.int y :: .int x :: rest)) F :=
  Endw.st (fun _ r => XS.iadd (g := mkF m pc Ls (.int y :: .int x :: rest)) C.here C.hx rfl (C.dec hd) rfl (hz ▸ r)) K
theorem Core.sb (C : Core p l e R s m args below meth c bs ml ret nm own Z a0 EL nw vm T h k n) (hd : decode bs pc = .ok (.isub, 1)) (hz : x - y = z) (K : Endw p e below T (mkF m (pc + 1) Ls (.int z :: rest)) F) : Endw p e below T (mkF m pc Ls (.int y :: .int x :: rest)) F :=
  Endw.st (fun _ r => XS.isub (g := mkF m pc Ls (.int y :: .int x :: rest)) C.here C.hx rfl (C.dec hd) rfl (hz ▸ r)) K
theorem Core.an (C : Core p l e R s m args below meth c bs ml ret nm own Z a0 EL nw vm T h k n) (hd : decode bs pc = .ok (.iand, 1)) (hz : x &&& y = z) (K : Endw p e below T (mkF m (pc + 1) Ls (.int z :: rest)) F) : Endw p e below T (mkF m pc Ls (.int y :: .int x :: rest)) F :=
  Endw.st (fun _ r => XS.iand (g := mkF m pc Ls (.int y :: .int x :: rest)) C.here C.hx rfl (C.dec hd) rfl (hz ▸ r)) K
end Short
end Jvm.Own
/- laws to paste: Road.backV (cut by pick.py; bodies as the Statement names them) -/
namespace Jvm.Pilot.@@N@@
namespace StrChars
open Jvm Sem ClassFile Op Lib Jvm.Stand Jvm.Free.XT Jvm.Free.ALB Jvm.Free.JM Jvm.Free
open Jvm.Lib.Cold (StaticIs)
def Ch (a : Addr) (A : Cell) (U : State) : Prop := Arr .char a A U ∧ Typed .char A
theorem Ch.mv {a : Addr} {A : Cell} {U U' : State} (h : Ch a A U) (hal : U.vm.Alike U'.vm) (hh : U'.heap = U.heap) : Ch a A U' := ⟨h.1.mv hal hh, h.2⟩
theorem Ch.keep {a : Addr} {A : Cell} {U U' : State} (h : Ch a A U) (hal : U.vm.Alike U'.vm) (hk : U'.heap[a]? = some A) : Ch a A U' := ⟨h.1.keep hal hk, h.2⟩
def cv (A : Cell) (i : Nat) : Int32 := match A.slots[i]? with | some (.int x) => x | _ => 0
theorem Ch.get {a : Addr} {A : Cell} {U : State} (h : Ch a A U) {i : Nat} (hi : i < A.slots.size) : A.slots[i]? = some (.int (cv A i)) := by
  have e := Array.getElem?_eq_getElem hi
  have f := h.2 i _ e
  unfold cv; rw [e]
  generalize A.slots[i] = v at f
  cases v <;> simp [fits] at f ⊢
def lo8 (x : Int32) : Int32 := x.toInt8.toInt32
theorem fits_lo8 (y : Int32) : fits .byte (.int (lo8 y)) = true := by
  have h1 := y.toInt8.le_toInt
  have h2 := y.toInt8.toInt_lt
  simp only [lo8, fits, Bool.and_eq_true, decide_eq_true_eq, Int32.le_iff_toInt_le, Int8.toInt_toInt32, show (-128 : Int32).toInt = -128 from by decide, show (127 : Int32).toInt = 127 from by decide]
  omega
def Laid (A A' : Cell) (lo hi : Nat) (f : Nat → Value) : Prop := A'.cls = A.cls ∧ A'.vm = A.vm ∧ A'.slots.size = A.slots.size ∧ ∀ i, A'.slots[i]? = if lo ≤ i ∧ i < hi then some (f i) else A.slots[i]?
theorem Laid.zero (A : Cell) (lo : Nat) (f : Nat → Value) : Laid A A lo (lo + 0) f := ⟨rfl, rfl, rfl, fun i => by rw [if_neg (by omega)]⟩
theorem Laid.step {A Ak : Cell} {lo k : Nat} {f : Nat → Value} {v : Value} (h : Laid A Ak lo k f) (hlo : lo ≤ k) (hk : k < Ak.slots.size) (hv : v = f k) : Laid A (Ak.setSlot k v) lo (k + 1) f := by
  refine ⟨h.1, h.2.1, by simpa [Cell.setSlot] using h.2.2.1, fun i => ?_⟩
  by_cases e : k = i
  · subst e; rw [Cell.slots_setSlot_self v hk, if_pos (by omega), hv]
  · rw [Cell.slots_setSlot_ne v e, h.2.2.2 i]
    by_cases q : lo ≤ i ∧ i < k
    · rw [if_pos q, if_pos (by omega)]
    · rw [if_neg q, if_neg (by omega)]
def U16 : String := "java/lang/StringUTF16"
namespace Cmp5
def yN : MethodName := ⟨"java/lang/StringUTF16", "compress", "([CI[BII)I"⟩
abbrev yB : ByteArray := jdk_52_method_21_code
theorem d0 : decode yB 0 = .ok (.iconst 0, 1) := by decide +kernel
theorem d1 : decode yB 1 = .ok (.istore 5, 2) := by decide +kernel
theorem d3 : decode yB 3 = .ok (.iload 5, 2) := by decide +kernel
theorem d5 : decode yB 5 = .ok (.iload 4, 2) := by decide +kernel
theorem d7 : decode yB 7 = .ok (.if_icmp (.ge) 37, 3) := by decide +kernel
theorem d10 : decode yB 10 = .ok (.aload_n 0, 1) := by decide +kernel
theorem d11 : decode yB 11 = .ok (.iload_n 1, 1) := by decide +kernel
theorem d12 : decode yB 12 = .ok (.caload, 1) := by decide +kernel
theorem d13 : decode yB 13 = .ok (.istore 6, 2) := by decide +kernel
theorem d15 : decode yB 15 = .ok (.iload 6, 2) := by decide +kernel
theorem d17 : decode yB 17 = .ok (.sipush 255, 3) := by decide +kernel
theorem d20 : decode yB 20 = .ok (.if_icmp (.le) 6, 3) := by decide +kernel
theorem d26 : decode yB 26 = .ok (.aload_n 2, 1) := by decide +kernel
theorem d27 : decode yB 27 = .ok (.iload_n 3, 1) := by decide +kernel
theorem d28 : decode yB 28 = .ok (.iload 6, 2) := by decide +kernel
theorem d30 : decode yB 30 = .ok (.i2b, 1) := by decide +kernel
theorem d31 : decode yB 31 = .ok (.bastore, 1) := by decide +kernel
theorem d32 : decode yB 32 = .ok (.iinc 1 1, 3) := by decide +kernel
theorem d35 : decode yB 35 = .ok (.iinc 3 1, 3) := by decide +kernel
theorem d38 : decode yB 38 = .ok (.iinc 5 1, 3) := by decide +kernel
theorem d41 : decode yB 41 = .ok (.goto (-38), 3) := by decide +kernel
theorem d44 : decode yB 44 = .ok (.iload 4, 2) := by decide +kernel
theorem d46 : decode yB 46 = .ok (.ireturn, 1) := by decide +kernel
def site : List Cond := []
def tab : Cond := tabOf yN yB 7 (some .int) site
def P (b : Addr) (A : Cell) (d : Addr) (B : Cell) (o q len : Nat) (args : Array Value) (s : State) : Prop := args = #[.ref b, .int (Int32.ofNat o), .ref d, .int (Int32.ofNat q), .int (Int32.ofNat len)] ∧ Ch b A s ∧ Arr .byte d B s ∧ b ≠ d ∧ o + len ≤ A.slots.size ∧ q + len ≤ B.slots.size ∧ ∀ i, i < len → ¬ 255 < cv A (o + i)
def E (b : Addr) (A : Cell) (d : Addr) (B : Cell) (o q len : Nat) (r : Option Value) (s u : State) : Prop := r = some (.int (Int32.ofNat len)) ∧ ∃ B', Put d B' s u ∧ Laid B B' q (q + len) (fun j => Value.int (lo8 (cv A (o + (j - q)))))
theorem law (l : Launch) (b : Addr) (A : Cell) (d : Addr) (B : Cell) (o q len : Nat) : Law l yN 5 5 0 0 yB 7 (some .int) site (P b A d B o q len) (E b A d B o q len) (copyLocs d q len) 0 0 := by
  refine Law.of_walk (plainFor_of_name (by decide +kernel)) (by decide +kernel) (by decide +kernel) (by decide) (fun _ _ h => by rw [h.1]; rfl) (fun _ U U' hal hh h => ⟨h.1, h.2.1.mv hal hh, h.2.2.1.mv hal hh, h.2.2.2⟩) (fun r U U' V V' h1 hal h2 h => ⟨h.1, h.2.elim fun B' q => ⟨B', q.1.mv h1 h2, q.2⟩⟩) ?_
  intro p e s m args below meth c s₁ X0 hexec hbytes hml hret hlk hnm hown hh0 W hP
  obtain ⟨rfl, hA, hB, hne, l1, l2, hp⟩ := hP
  have c1 : Steps p.tables e below (s₁.setTop (entryFrame m #[.ref b, .int (Int32.ofNat o), .ref d, .int (Int32.ofNat q), .int (Int32.ofNat len)] 7)) (s₁.setTop (mkF m 0 #[.val (.ref b), .val (.int (Int32.ofNat o)), .val (.ref d), .val (.int (Int32.ofNat q)), .val (.int (Int32.ofNat len)), .unset, .unset] [])) := entry rfl
  have hA0 := hA.1.mv X0.warmed.alike hh0
  have hB0 := hB.mv X0.warmed.alike hh0
  have a31 := hA.1.2.2.2
  have c2 : Steps p.tables e below (s₁.setTop (entryFrame m #[.ref b, .int (Int32.ofNat o), .ref d, .int (Int32.ofNat q), .int (Int32.ofNat len)] 7)) (s₁.setTop (mkF m 3 #[.val (.ref b), .val (.int (Int32.ofNat o)), .val (.ref d), .val (.int (Int32.ofNat q)), .val (.int (Int32.ofNat len)), .val (.int 0), .unset] [])) := c1.trans (by
    refine iconstV X0.here hexec rfl 0 (hb hbytes d0) (by decide) ?_
    refine XS.istore X0.here hexec rfl (hb hbytes d1) rfl rfl ?_
    exact Steps.refl _)
  have loop : ∀ (r i : Nat), i + r = len → ∀ (z : Slot), (z = .unset ∨ ∃ w, z = .val w ∧ w.category = 1) → ∀ (Tl : State) (Bk : Cell), Stand p l e { frames := 0, locals := 0, cells := 0, slots := 0 } s m #[.ref b, .int (Int32.ofNat o), .ref d, .int (Int32.ofNat q), .int (Int32.ofNat len)] below meth c Tl ([] ++ copyLocs d q i) 0 0 → Put d Bk s₁ Tl → Laid B Bk q (q + i) (fun j => Value.int (lo8 (cv A (o + (j - q))))) →
      Steps p.tables e below (s₁.setTop (entryFrame m #[.ref b, .int (Int32.ofNat o), .ref d, .int (Int32.ofNat q), .int (Int32.ofNat len)] 7)) (Tl.setTop (mkF m 3 #[.val (.ref b), .val (.int (Int32.ofNat (o + i))), .val (.ref d), .val (.int (Int32.ofNat (q + i))), .val (.int (Int32.ofNat len)), .val (.int (Int32.ofNat i)), z] [])) → ∃ (T' : State) (B' : Cell) (z' : Slot), Stand p l e { frames := 0, locals := 0, cells := 0, slots := 0 } s m #[.ref b, .int (Int32.ofNat o), .ref d, .int (Int32.ofNat q), .int (Int32.ofNat len)] below meth c T' ([] ++ copyLocs d q len) 0 0 ∧ Put d B' s₁ T' ∧ Laid B B' q (q + len) (fun j => Value.int (lo8 (cv A (o + (j - q))))) ∧
      Steps p.tables e below (s₁.setTop (entryFrame m #[.ref b, .int (Int32.ofNat o), .ref d, .int (Int32.ofNat q), .int (Int32.ofNat len)] 7)) (T'.setTop (mkF m 3 #[.val (.ref b), .val (.int (Int32.ofNat (o + len))), .val (.ref d), .val (.int (Int32.ofNat (q + len))), .val (.int (Int32.ofNat len)), .val (.int (Int32.ofNat len)), z'] [])) := by
    intro r
    induction r with
    | zero =>
      intro i hi z hz Tl Bk Xl pl fl cl
      have hil : i = len := by omega
      rw [hil] at Xl fl cl
      exact ⟨Tl, Bk, z, Xl, pl, fl, cl⟩
    | succ r ih =>
      intro i hi z hz Tl Bk Xl pl fl cl
      have all := X0.warmed.alike.symm.trans Xl.warmed.alike
      have hAl := hA0.keep all (pl.other hne hA0.1)
      have hBk := hB0.like all pl.1 fl.1 fl.2.1 fl.2.2.1
      have hlt : q + i < Bk.slots.size := by rw [fl.2.2.1]; omega
      have c3 : Steps p.tables e below (s₁.setTop (entryFrame m #[.ref b, .int (Int32.ofNat o), .ref d, .int (Int32.ofNat q), .int (Int32.ofNat len)] 7)) (Tl.setTop (mkF m 12 #[.val (.ref b), .val (.int (Int32.ofNat (o + i))), .val (.ref d), .val (.int (Int32.ofNat (q + i))), .val (.int (Int32.ofNat len)), .val (.int (Int32.ofNat i)), z] [.int (Int32.ofNat (o + i)), .ref b])) := cl.trans (by
        refine XS.iload Xl.here hexec rfl (hb hbytes d3) rfl ?_
        refine XS.iload Xl.here hexec rfl (hb hbytes d5) rfl ?_
        refine XS.icmpNo Xl.here hexec rfl (hb hbytes d7) rfl (ii_ge_f (lt32 (by omega) (by omega))) ?_
        refine XS.aloadN Xl.here hexec rfl (hb hbytes d10) rfl rfl ?_
        refine XS.iloadN Xl.here hexec rfl (hb hbytes d11) rfl ?_
        exact Steps.refl _)
      have c4 : Steps p.tables e below (s₁.setTop (entryFrame m #[.ref b, .int (Int32.ofNat o), .ref d, .int (Int32.ofNat q), .int (Int32.ofNat len)] 7)) (Tl.setTop (mkF m 13 #[.val (.ref b), .val (.int (Int32.ofNat (o + i))), .val (.ref d), .val (.int (Int32.ofNat (q + i))), .val (.int (Int32.ofNat len)), .val (.int (Int32.ofNat i)), z] [.int (cv A (o + i))])) := c3.trans (by
        refine Xl.aget hexec hAl rfl (hA.get (i := o + i) (by omega)) rfl rfl (hb hbytes d12) ?_
        exact Steps.refl _)
      have c5 : Steps p.tables e below (s₁.setTop (entryFrame m #[.ref b, .int (Int32.ofNat o), .ref d, .int (Int32.ofNat q), .int (Int32.ofNat len)] 7)) (Tl.setTop (mkF m 15 #[.val (.ref b), .val (.int (Int32.ofNat (o + i))), .val (.ref d), .val (.int (Int32.ofNat (q + i))), .val (.int (Int32.ofNat len)), .val (.int (Int32.ofNat i)), .val (.int (cv A (o + i)))] [])) := c4.trans (by
        refine XS.istoreS Xl.here hexec rfl (hb hbytes d13) rfl rfl hz ?_
        exact Steps.refl _)
      have c6 : Steps p.tables e below (s₁.setTop (entryFrame m #[.ref b, .int (Int32.ofNat o), .ref d, .int (Int32.ofNat q), .int (Int32.ofNat len)] 7)) (Tl.setTop (mkF m 31 #[.val (.ref b), .val (.int (Int32.ofNat (o + i))), .val (.ref d), .val (.int (Int32.ofNat (q + i))), .val (.int (Int32.ofNat len)), .val (.int (Int32.ofNat i)), .val (.int (cv A (o + i)))] [.int (lo8 (cv A (o + i))), .int (Int32.ofNat (q + i)), .ref d])) := c5.trans (by
        refine XS.iload Xl.here hexec rfl (hb hbytes d15) rfl ?_
        refine sipushV Xl.here hexec rfl 255 (hb hbytes d17) (by decide) ?_
        refine XS.icmpYes Xl.here hexec rfl (pc0 := 20) rfl (hb hbytes d20) rfl (ii_le_t (hp i (by omega))) (by decide) rfl ?_
        refine XS.aloadN Xl.here hexec rfl (hb hbytes d26) rfl rfl ?_
        refine XS.iloadN Xl.here hexec rfl (hb hbytes d27) rfl ?_
        refine XS.iload Xl.here hexec rfl (hb hbytes d28) rfl ?_
        refine i2b Xl.here hexec rfl (hb hbytes d30) rfl ?_
        exact Steps.refl _)
      obtain ⟨T7, X7, p7, st7⟩ := Xl.aput hexec hBk rfl hlt rfl (fits_lo8 (cv A (o + i))) (g := (mkF m 31 #[.val (.ref b), .val (.int (Int32.ofNat (o + i))), .val (.ref d), .val (.int (Int32.ofNat (q + i))), .val (.int (Int32.ofNat len)), .val (.int (Int32.ofNat i)), .val (.int (cv A (o + i)))] [.int (lo8 (cv A (o + i))), .int (Int32.ofNat (q + i)), .ref d])) rfl (rest := []) rfl (hb hbytes d31)
      have c8 : Steps p.tables e below (s₁.setTop (entryFrame m #[.ref b, .int (Int32.ofNat o), .ref d, .int (Int32.ofNat q), .int (Int32.ofNat len)] 7)) (T7.setTop (mkF m 32 #[.val (.ref b), .val (.int (Int32.ofNat (o + i))), .val (.ref d), .val (.int (Int32.ofNat (q + i))), .val (.int (Int32.ofNat len)), .val (.int (Int32.ofNat i)), .val (.int (cv A (o + i)))] [])) := c6.trans (st7 _ (Steps.refl _))
      have c9 : Steps p.tables e below (s₁.setTop (entryFrame m #[.ref b, .int (Int32.ofNat o), .ref d, .int (Int32.ofNat q), .int (Int32.ofNat len)] 7)) (T7.setTop (mkF m 3 #[.val (.ref b), .val (.int (Int32.ofNat (o + i) + 1)), .val (.ref d), .val (.int (Int32.ofNat (q + i) + 1)), .val (.int (Int32.ofNat len)), .val (.int (Int32.ofNat i + 1)), .val (.int (cv A (o + i)))] [])) := c8.trans (by
        refine iincV X7.here hexec rfl 1 (hb hbytes d32) (by decide) rfl rfl ?_
        refine iincV X7.here hexec rfl 1 (hb hbytes d35) (by decide) rfl rfl ?_
        refine iincV X7.here hexec rfl 1 (hb hbytes d38) (by decide) rfl rfl ?_
        refine XS.goto X7.here hexec rfl (pc0 := 41) rfl (hb hbytes d41) (by decide) rfl ?_
        exact Steps.refl _)
      have c10 : Steps p.tables e below (s₁.setTop (entryFrame m #[.ref b, .int (Int32.ofNat o), .ref d, .int (Int32.ofNat q), .int (Int32.ofNat len)] 7)) (T7.setTop (mkF m 3 #[.val (.ref b), .val (.int (Int32.ofNat (o + (i + 1)))), .val (.ref d), .val (.int (Int32.ofNat (q + (i + 1)))), .val (.int (Int32.ofNat len)), .val (.int (Int32.ofNat (i + 1))), .val (.int (cv A (o + i)))] [])) := by
        have := c9
        rw [succ32, succ32, succ32] at this
        exact this
      exact ih (i + 1) (by omega) _ (Or.inr ⟨_, rfl, rfl⟩) T7 _ (by rw [copyLocs_step, ← List.append_assoc]; exact X7) (pl.trans p7) (fl.step (by omega) hlt (by simp)) c10
  obtain ⟨T9, B9, z9, X9, p9, f9, g9⟩ := loop len 0 (by omega) .unset (Or.inl rfl) s₁ B (by simpa [copyLocs] using X0) ⟨hB0.1, fun _ _ => rfl, rfl⟩ (Laid.zero _ _ _) c2
  have c11 : Steps p.tables e below (s₁.setTop (entryFrame m #[.ref b, .int (Int32.ofNat o), .ref d, .int (Int32.ofNat q), .int (Int32.ofNat len)] 7)) (T9.setTop (mkF m 46 #[.val (.ref b), .val (.int (Int32.ofNat (o + len))), .val (.ref d), .val (.int (Int32.ofNat (q + len))), .val (.int (Int32.ofNat len)), .val (.int (Int32.ofNat len)), z9] [.int (Int32.ofNat len)])) := g9.trans (by
    refine XS.iload X9.here hexec rfl (hb hbytes d3) rfl ?_
    refine XS.iload X9.here hexec rfl (hb hbytes d5) rfl ?_
    refine XS.icmpYes X9.here hexec rfl (pc0 := 7) rfl (hb hbytes d7) rfl (ii_ge_t (nlt32 (by omega) (Nat.le_refl _))) (by decide) rfl ?_
    refine XS.iload X9.here hexec rfl (hb hbytes d44) rfl ?_
    exact Steps.refl _)
  exact ⟨T9, some (.int (Int32.ofNat len)), _, _, _, X9, by simp, rfl, rfl, (fun h => by cases h), ⟨rfl, B9, p9.from hh0, f9⟩, fun fs hl => c11.trans (X9.ireturnOut hexec hret rfl (Or.inl rfl) (hb hbytes d46) hl)⟩
end Cmp5
namespace Cmp3
def yN : MethodName := ⟨"java/lang/StringUTF16", "compress", "([CII)[B"⟩
abbrev yB : ByteArray := jdk_52_method_16_code
theorem d0 : decode yB 0 = .ok (.iload_n 2, 1) := by decide +kernel
theorem d1 : decode yB 1 = .ok (.newarray .byte, 2) := by decide +kernel
theorem d3 : decode yB 3 = .ok (.astore_n 3, 1) := by decide +kernel
theorem d4 : decode yB 4 = .ok (.aload_n 0, 1) := by decide +kernel
theorem d5 : decode yB 5 = .ok (.iload_n 1, 1) := by decide +kernel
theorem d6 : decode yB 6 = .ok (.aload_n 3, 1) := by decide +kernel
theorem d7 : decode yB 7 = .ok (.iconst 0, 1) := by decide +kernel
theorem d8 : decode yB 8 = .ok (.iload_n 2, 1) := by decide +kernel
theorem d9 : decode yB 9 = .ok (.invokestatic 115, 3) := by decide +kernel
theorem d12 : decode yB 12 = .ok (.istore 4, 2) := by decide +kernel
theorem d14 : decode yB 14 = .ok (.iload 4, 2) := by decide +kernel
theorem d16 : decode yB 16 = .ok (.iload_n 2, 1) := by decide +kernel
theorem d17 : decode yB 17 = .ok (.if_icmp (.eq) 40, 3) := by decide +kernel
theorem d57 : decode yB 57 = .ok (.aload_n 3, 1) := by decide +kernel
theorem d58 : decode yB 58 = .ok (.areturn, 1) := by decide +kernel
def site : List Cond := [.arrayClass .byte, Cmp5.tab] ++ staticW U16 115 Cmp5.yN
def tab : Cond := tabOf yN yB 6 (some (.array .byte)) site
def P (b : Addr) (A : Cell) (o len : Nat) (args : Array Value) (s : State) : Prop := args = #[.ref b, .int (Int32.ofNat o), .int (Int32.ofNat len)] ∧ Ch b A s ∧ o + len ≤ A.slots.size ∧ len ≤ 536870912 ∧ ∀ i, i < len → ¬ 255 < cv A (o + i)
def E (b : Addr) (A : Cell) (o len : Nat) (r : Option Value) (s u : State) : Prop := NewArr .byte "[B" len (fun j => .int (lo8 (cv A (o + j)))) r s u ∧ u.heap.size = s.heap.size + 1
theorem law (l : Launch) (b : Addr) (A : Cell) (o len : Nat) : Law l yN 3 3 1 18 yB 6 (some (.array .byte)) site (P b A o len) (E b A o len) [] 1 len := by
  refine Law.of_walk (plainFor_of_name (by decide +kernel)) (by decide +kernel) (by decide +kernel) (by decide) (fun _ _ h => by rw [h.1]; rfl) (fun _ U U' hal hh h => ⟨h.1, h.2.1.mv hal hh, h.2.2⟩) (fun r U U' V V' h1 hal h2 h => ⟨NewArr.mv r U U' V V' h1 hal h2 h.1, by rw [h1, h2]; exact h.2⟩) ?_
  intro p e s m args below meth c s₁ X0 hexec hbytes hml hret hlk hnm hown hh0 W hP
  obtain ⟨rfl, hA, l1, l2, hp⟩ := hP
  have a31 := hA.1.2.2.2
  have c1 : Steps p.tables e below (s₁.setTop (entryFrame m #[.ref b, .int (Int32.ofNat o), .int (Int32.ofNat len)] 6)) (s₁.setTop (mkF m 0 #[.val (.ref b), .val (.int (Int32.ofNat o)), .val (.int (Int32.ofNat len)), .unset, .unset, .unset] [])) := entry rfl
  have c2 : Steps p.tables e below (s₁.setTop (entryFrame m #[.ref b, .int (Int32.ofNat o), .int (Int32.ofNat len)] 6)) (s₁.setTop (mkF m 1 #[.val (.ref b), .val (.int (Int32.ofNat o)), .val (.int (Int32.ofNat len)), .unset, .unset, .unset] [.int (Int32.ofNat len)])) := c1.trans (by
    refine XS.iloadN X0.here hexec rfl (hb hbytes d0) rfl ?_
    exact Steps.refl _)
  obtain ⟨T3, B3, X3, ba3, bs3, bv3, bh3, bf3, st3⟩ := X0.anew hexec (atype := .byte) (wk W (.arrayClass .byte)) rfl (by show len * 1 ≤ _; omega) (by omega) (g := (mkF m 1 #[.val (.ref b), .val (.int (Int32.ofNat o)), .val (.int (Int32.ofNat len)), .unset, .unset, .unset] [.int (Int32.ofNat len)])) rfl (hb hbytes d1) (rest := []) rfl (Nat.le_refl _) (by show 0 + len ≤ len; omega)
  rw [hh0] at ba3 st3
  have kp3 : XT.Kept s T3 := (XT.Kept.of_eq hh0).push bh3
  have hA3 := hA.keep X3.warmed.alike (kp3 _ _ hA.1.1)
  have hne : b ≠ s.heap.size := hA.1.ne
  have c4 : Steps p.tables e below (s₁.setTop (entryFrame m #[.ref b, .int (Int32.ofNat o), .int (Int32.ofNat len)] 6)) (T3.setTop (mkF m 3 #[.val (.ref b), .val (.int (Int32.ofNat o)), .val (.int (Int32.ofNat len)), .unset, .unset, .unset] [.ref s.heap.size])) := c2.trans (st3 _ (Steps.refl _))
  have c5 : Steps p.tables e below (s₁.setTop (entryFrame m #[.ref b, .int (Int32.ofNat o), .int (Int32.ofNat len)] 6)) (T3.setTop (mkF m 9 #[.val (.ref b), .val (.int (Int32.ofNat o)), .val (.int (Int32.ofNat len)), .val (.ref s.heap.size), .unset, .unset] [.int (Int32.ofNat len), .int 0, .ref s.heap.size, .int (Int32.ofNat o), .ref b])) := c4.trans (by
    refine XS.astoreN X3.here hexec rfl (hb hbytes d3) rfl rfl rfl ?_
    refine XS.aloadN X3.here hexec rfl (hb hbytes d4) rfl rfl ?_
    refine XS.iloadN X3.here hexec rfl (hb hbytes d5) rfl ?_
    refine XS.aloadN X3.here hexec rfl (hb hbytes d6) rfl rfl ?_
    refine iconstV X3.here hexec rfl 0 (hb hbytes d7) (by decide) ?_
    refine XS.iloadN X3.here hexec rfl (hb hbytes d8) rfl ?_
    exact Steps.refl _)
  obtain ⟨v6, T6, X6, E6, g6⟩ := X3.callS hexec (Cmp5.law l b A s.heap.size B3 o 0 len) hown (wks W (staticW U16 115 Cmp5.yN)) (wk W Cmp5.tab) (W := 0) (Nat.le_of_ble_eq_true rfl) (Nat.le_of_ble_eq_true rfl) (Nat.le_refl _) (by show 0 + len + 0 ≤ len; omega) (g := (mkF m 9 #[.val (.ref b), .val (.int (Int32.ofNat o)), .val (.int (Int32.ofNat len)), .val (.ref s.heap.size), .unset, .unset] [.int (Int32.ofNat len), .int (Int32.ofNat 0), .ref s.heap.size, .int (Int32.ofNat o), .ref b])) rfl (by rw [hml]; rfl) c5 (argsL := [.ref b, .int (Int32.ofNat o), .ref s.heap.size, .int (Int32.ofNat 0), .int (Int32.ofNat len)]) (rest := []) rfl rfl (by show 2 * 0 + 0 ≤ _; decide) (hb hbytes d9) (⟨rfl, hA3, ba3, hne, l1, by rw [bs3]; simp, hp⟩)
  obtain ⟨rfl, B6, p6, f6⟩ := E6
  have c7 : Steps p.tables e below (s₁.setTop (entryFrame m #[.ref b, .int (Int32.ofNat o), .int (Int32.ofNat len)] 6)) (T6.setTop (mkF m 12 #[.val (.ref b), .val (.int (Int32.ofNat o)), .val (.int (Int32.ofNat len)), .val (.ref s.heap.size), .unset, .unset] [.int (Int32.ofNat len)])) := g6
  have c8 : Steps p.tables e below (s₁.setTop (entryFrame m #[.ref b, .int (Int32.ofNat o), .int (Int32.ofNat len)] 6)) (T6.setTop (mkF m 58 #[.val (.ref b), .val (.int (Int32.ofNat o)), .val (.int (Int32.ofNat len)), .val (.ref s.heap.size), .val (.int (Int32.ofNat len)), .unset] [.ref s.heap.size])) := c7.trans (by
    refine XS.istore X6.here hexec rfl (hb hbytes d12) rfl rfl ?_
    refine XS.iload X6.here hexec rfl (hb hbytes d14) rfl ?_
    refine XS.iloadN X6.here hexec rfl (hb hbytes d16) rfl ?_
    refine XS.icmpYes X6.here hexec rfl (pc0 := 17) rfl (hb hbytes d17) rfl (ii_eq_t rfl) (by decide) rfl ?_
    refine XS.aloadN X6.here hexec rfl (hb hbytes d57) rfl rfl ?_
    exact Steps.refl _)
  have X8 := X6.wide (L' := []) (cells' := 1) (slots' := len) (fun x hx hlt => by
    simp only [List.nil_append, copyLocs, List.mem_map, List.mem_range] at hx
    obtain ⟨i, -, rfl⟩ := hx
    exact absurd hlt (Nat.lt_irrefl _)) (Nat.le_refl _) (by omega)
  exact ⟨T6, some (.ref s.heap.size), _, _, _, X8, rfl, rfl, rfl, (fun h => by cases h), ⟨⟨rfl, B6, ba3.like (X3.warmed.alike.symm.trans X6.warmed.alike) p6.1 f6.1 f6.2.1 f6.2.2.1, f6.2.1.trans bv3, by rw [X6.warmed.alike.findClass, f6.1]; exact bf3, by rw [f6.2.2.1, bs3]; simp, fun j hj => by rw [f6.2.2.2 j, if_pos (by omega)]; rfl, kp3.put p6 (Nat.le_refl _)⟩, by rw [p6.2.2, bh3, hh0]; simp⟩, fun fs hl => c8.trans (X8.areturnOut hexec rfl hret rfl (hb hbytes d58) hl)⟩
end Cmp3
namespace CodL
def yN : MethodName := ⟨"java/lang/StringUTF16", "coderFromArrayLen", "([BI)B"⟩
abbrev yB : ByteArray := jdk_52_method_15_code
theorem d0 : decode yB 0 = .ok (.iload_n 1, 1) := by decide +kernel
theorem d1 : decode yB 1 = .ok (.aload_n 0, 1) := by decide +kernel
theorem d2 : decode yB 2 = .ok (.arraylength, 1) := by decide +kernel
theorem d3 : decode yB 3 = .ok (.isub, 1) := by decide +kernel
theorem d4 : decode yB 4 = .ok (.bipush 31, 2) := by decide +kernel
theorem d6 : decode yB 6 = .ok (.iushr, 1) := by decide +kernel
theorem d7 : decode yB 7 = .ok (.i2b, 1) := by decide +kernel
theorem d8 : decode yB 8 = .ok (.ireturn, 1) := by decide +kernel
def site : List Cond := []
def tab : Cond := tabOf yN yB 2 (some .byte) site
def P (d : Addr) (B : Cell) (args : Array Value) (s : State) : Prop := args = #[.ref d, .int (Int32.ofNat B.slots.size)] ∧ Arr .byte d B s
def E (r : Option Value) (s u : State) : Prop := XT.PureE (some (.int 0)) r s u
theorem law (l : Launch) (d : Addr) (B : Cell) : Law l yN 2 2 0 0 yB 2 (some .byte) site (P d B) E [] 0 0 := by
  refine Law.of_walk (plainFor_of_name (by decide +kernel)) (by decide +kernel) (by decide +kernel) (by decide) (fun _ _ h => by rw [h.1]; rfl) (fun _ U U' hal hh h => ⟨h.1, h.2.mv hal hh⟩) (fun r U U' V V' h1 hal h2 h => XT.PureE.mv r U U' V V' h1 hal h2 h) ?_
  intro p e s m args below meth c s₁ X0 hexec hbytes hml hret hlk hnm hown hh0 W hP
  obtain ⟨rfl, hB⟩ := hP
  have hB0 := hB.mv X0.warmed.alike hh0
  have c1 : Steps p.tables e below (s₁.setTop (entryFrame m #[.ref d, .int (Int32.ofNat B.slots.size)] 2)) (s₁.setTop (mkF m 0 #[.val (.ref d), .val (.int (Int32.ofNat B.slots.size))] [])) := entry rfl
  have c2 : Steps p.tables e below (s₁.setTop (entryFrame m #[.ref d, .int (Int32.ofNat B.slots.size)] 2)) (s₁.setTop (mkF m 2 #[.val (.ref d), .val (.int (Int32.ofNat B.slots.size))] [.ref d, .int (Int32.ofNat B.slots.size)])) := c1.trans (by
    refine XS.iloadN X0.here hexec rfl (hb hbytes d0) rfl ?_
    refine XS.aloadN X0.here hexec rfl (hb hbytes d1) rfl rfl ?_
    exact Steps.refl _)
  have c3 : Steps p.tables e below (s₁.setTop (entryFrame m #[.ref d, .int (Int32.ofNat B.slots.size)] 2)) (s₁.setTop (mkF m 8 #[.val (.ref d), .val (.int (Int32.ofNat B.slots.size))] [.int (lo8 (ushr (Int32.ofNat B.slots.size - Int32.ofNat B.slots.size) 31))])) := c2.trans (by
    refine X0.alen hexec hB0 rfl rfl (hb hbytes d2) ?_
    refine XS.isub X0.here hexec rfl (hb hbytes d3) rfl ?_
    refine bipushV X0.here hexec rfl 31 (hb hbytes d4) (by decide) ?_
    refine iushr X0.here hexec rfl (hb hbytes d6) rfl ?_
    refine i2b X0.here hexec rfl (hb hbytes d7) rfl ?_
    exact Steps.refl _)
  have e0 : lo8 (ushr (Int32.ofNat B.slots.size - Int32.ofNat B.slots.size) 31) = 0 := by rw [Int32.sub_self]; decide
  rw [e0] at c3
  exact ⟨s₁, some (.int 0), _, _, _, X0, rfl, rfl, rfl, (fun h => by cases h), ⟨rfl, hh0⟩, fun fs hl => c3.trans (X0.ireturnOut hexec hret rfl (Or.inr (Or.inr (Or.inl rfl))) (hb hbytes d8) hl)⟩
end CodL
def Got (a : Addr) (D : Cell) (fV fC : Field) (A : Cell) (o len : Nat) (r : Option Value) (s u : State) : Prop := r = none ∧ ∃ D' V : Cell, Blank "java/lang/String" a D' u ∧ Same D D' [fV.slot, fC.slot] ∧ D'.slots[fV.slot]? = some (.ref s.heap.size) ∧ D'.slots[fC.slot]? = some (.int 0) ∧ Arr .byte s.heap.size V u ∧ V.vm = .none ∧ u.vm.findClass "[B" = some V.cls ∧ V.slots.size = len ∧ (∀ j, j < len → V.slots[j]? = some (.int (lo8 (cv A (o + j))))) ∧ (∀ (y : Addr) (c : Cell), y ≠ a → s.heap[y]? = some c → u.heap[y]? = some c) ∧ u.heap.size = s.heap.size + 1
theorem Got.mv {a : Addr} {D A : Cell} {fV fC : Field} {o len : Nat} : ∀ r (U U' V V' : State), U'.heap = U.heap → V.vm.Alike V'.vm → V'.heap = V.heap → Got a D fV fC A o len r U V → Got a D fV fC A o len r U' V' :=
  fun r U U' V V' h1 hal h2 ⟨e0, D', X, a1, a2, a3, a4, a5, a6, a7, a8, a9, a10, a11⟩ => ⟨e0, D', X, a1.mv hal h2, a2, by rw [h1]; exact a3, a4, by rw [h1]; exact a5.mv hal h2, a6, by rw [hal.findClass]; exact a7, a8, a9, by rw [h1, h2]; exact a10, by rw [h1, h2]; exact a11⟩
namespace New4
def yN : MethodName := ⟨"java/lang/String", "<init>", "([CIILjava/lang/Void;)V"⟩
abbrev yB : ByteArray := jdk_42_method_149_code
theorem d0 : decode yB 0 = .ok (.aload_n 0, 1) := by decide +kernel
theorem d1 : decode yB 1 = .ok (.invokespecial 1, 3) := by decide +kernel
theorem d4 : decode yB 4 = .ok (.iload_n 3, 1) := by decide +kernel
theorem d5 : decode yB 5 = .ok (.ifCond (.ne) 22, 3) := by decide +kernel
theorem d27 : decode yB 27 = .ok (.getstatic 38, 3) := by decide +kernel
theorem d30 : decode yB 30 = .ok (.ifCond (.eq) 28, 3) := by decide +kernel
theorem d33 : decode yB 33 = .ok (.aload_n 1, 1) := by decide +kernel
theorem d34 : decode yB 34 = .ok (.iload_n 2, 1) := by decide +kernel
theorem d35 : decode yB 35 = .ok (.iload_n 3, 1) := by decide +kernel
theorem d36 : decode yB 36 = .ok (.invokestatic 177, 3) := by decide +kernel
theorem d39 : decode yB 39 = .ok (.astore 5, 2) := by decide +kernel
theorem d41 : decode yB 41 = .ok (.aload_n 0, 1) := by decide +kernel
theorem d42 : decode yB 42 = .ok (.aload 5, 2) := by decide +kernel
theorem d44 : decode yB 44 = .ok (.iload_n 3, 1) := by decide +kernel
theorem d45 : decode yB 45 = .ok (.invokestatic 47, 3) := by decide +kernel
theorem d48 : decode yB 48 = .ok (.putfield 15, 3) := by decide +kernel
theorem d51 : decode yB 51 = .ok (.aload_n 0, 1) := by decide +kernel
theorem d52 : decode yB 52 = .ok (.aload 5, 2) := by decide +kernel
theorem d54 : decode yB 54 = .ok (.putfield 9, 3) := by decide +kernel
theorem d57 : decode yB 57 = .ok (.return_, 1) := by decide +kernel
def site : List Cond := [.fieldLink "java/lang/String" 38 "java/lang/String" "COMPACT_STRINGS" "Z", Cmp3.tab, CodL.tab, .laysFinal "java/lang/String" "java/lang/String" "value" "[B", .fieldLink "java/lang/String" 9 "java/lang/String" "value" "[B", .laysFinal "java/lang/String" "java/lang/String" "coder" "B", .fieldLink "java/lang/String" 15 "java/lang/String" "coder" "B"] ++ objW "java/lang/String" 1 ++ staticW "java/lang/String" 177 Cmp3.yN ++ staticW "java/lang/String" 47 CodL.yN
def tab : Cond := tabOf yN yB 6 none site
def P (a : Addr) (D : Cell) (fV fC : Field) (b : Addr) (A : Cell) (z : Int32) (o len : Nat) (args : Array Value) (s : State) : Prop := args = #[.ref a, .ref b, .int (Int32.ofNat o), .int (Int32.ofNat len), .null] ∧ Blank "java/lang/String" a D s ∧ Found "java/lang/String" "value" "[B" fV s ∧ Found "java/lang/String" "coder" "B" fC s ∧ Ch b A s ∧ StaticIs s "java/lang/String" "COMPACT_STRINGS" "Z" (.int z) ∧ ¬ z = 0 ∧ 0 < len ∧ o + len ≤ A.slots.size ∧ len ≤ 536870912 ∧ ∀ i, i < len → ¬ 255 < cv A (o + i)
def E (a : Addr) (D : Cell) (fV fC : Field) (A : Cell) (o len : Nat) (r : Option Value) (s u : State) : Prop := Got a D fV fC A o len r s u
theorem law (l : Launch) (a : Addr) (D : Cell) (fV fC : Field) (b : Addr) (A : Cell) (z : Int32) (o len : Nat) : Law l yN 5 4 2 35 yB 6 none site (P a D fV fC b A z o len) (E a D fV fC A o len) [⟨a, fC.slot⟩, ⟨a, fV.slot⟩] 1 len := by
  refine Law.of_walk (plainFor_of_name (by decide +kernel)) (by decide +kernel) (by decide +kernel) (by decide) (fun _ _ h => by rw [h.1]; rfl) (fun _ U U' hal hh h => ⟨h.1, h.2.1.mv hal hh, h.2.2.1.al hal, h.2.2.2.1.al hal, h.2.2.2.2.1.mv hal hh, h.2.2.2.2.2.1.there hal hh, h.2.2.2.2.2.2⟩) (fun r U U' V V' h1 hal h2 h => Got.mv r U U' V V' h1 hal h2 h) ?_
  intro p e s m args below meth c s₁ X0 hexec hbytes hml hret hlk hnm hown hh0 W hP
  obtain ⟨rfl, hB, f1, f2, hA, s1, hz, l0, l1, l2, hp⟩ := hP
  have a31 := hA.1.2.2.2
  have c1 : Steps p.tables e below (s₁.setTop (entryFrame m #[.ref a, .ref b, .int (Int32.ofNat o), .int (Int32.ofNat len), .null] 6)) (s₁.setTop (mkF m 0 #[.val (.ref a), .val (.ref b), .val (.int (Int32.ofNat o)), .val (.int (Int32.ofNat len)), .val .null, .unset] [])) := entry rfl
  have c2 : Steps p.tables e below (s₁.setTop (entryFrame m #[.ref a, .ref b, .int (Int32.ofNat o), .int (Int32.ofNat len), .null] 6)) (s₁.setTop (mkF m 1 #[.val (.ref a), .val (.ref b), .val (.int (Int32.ofNat o)), .val (.int (Int32.ofNat len)), .val .null, .unset] [.ref a])) := c1.trans (by
    refine XS.aloadN X0.here hexec rfl (hb hbytes d0) rfl rfl ?_
    exact Steps.refl _)
  obtain ⟨T3, X3, q3, st3⟩ := X0.oinit hexec hown (wks W (objW "java/lang/String" 1)) (g := (mkF m 1 #[.val (.ref a), .val (.ref b), .val (.int (Int32.ofNat o)), .val (.int (Int32.ofNat len)), .val .null, .unset] [.ref a])) rfl (by rw [hml]; rfl) (rest := []) rfl (hb hbytes d1) (W := 0) (by show 2 * 0 + 0 ≤ _; decide) (Nat.le_of_ble_eq_true rfl) (Nat.le_of_ble_eq_true rfl)
  have hh3 := q3.trans hh0
  have c4 : Steps p.tables e below (s₁.setTop (entryFrame m #[.ref a, .ref b, .int (Int32.ofNat o), .int (Int32.ofNat len), .null] 6)) (T3.setTop (mkF m 27 #[.val (.ref a), .val (.ref b), .val (.int (Int32.ofNat o)), .val (.int (Int32.ofNat len)), .val .null, .unset] [])) := (c2.trans (st3 _ (Steps.refl _))).trans (by
    refine XS.iloadN X3.here hexec rfl (hb hbytes d4) rfl ?_
    refine XS.ifYes X3.here hexec rfl (pc0 := 5) rfl (hb hbytes d5) rfl (i0_ne_t (nz32 (by omega) l0)) (by decide) rfl ?_
    exact Steps.refl _)
  obtain ⟨T5, X5, q5, st5⟩ := X3.sget hexec hown (wk W (.fieldLink "java/lang/String" 38 "java/lang/String" "COMPACT_STRINGS" "Z")) s1 (fun _ _ h => by rw [hh3]; exact h) (g := (mkF m 27 #[.val (.ref a), .val (.ref b), .val (.int (Int32.ofNat o)), .val (.int (Int32.ofNat len)), .val .null, .unset] [])) rfl (hb hbytes d27)
  have hh5 := q5.trans hh3
  have c6 : Steps p.tables e below (s₁.setTop (entryFrame m #[.ref a, .ref b, .int (Int32.ofNat o), .int (Int32.ofNat len), .null] 6)) (T5.setTop (mkF m 30 #[.val (.ref a), .val (.ref b), .val (.int (Int32.ofNat o)), .val (.int (Int32.ofNat len)), .val .null, .unset] [.int z])) := c4.trans (st5 _ (Steps.refl _))
  have c7 : Steps p.tables e below (s₁.setTop (entryFrame m #[.ref a, .ref b, .int (Int32.ofNat o), .int (Int32.ofNat len), .null] 6)) (T5.setTop (mkF m 36 #[.val (.ref a), .val (.ref b), .val (.int (Int32.ofNat o)), .val (.int (Int32.ofNat len)), .val .null, .unset] [.int (Int32.ofNat len), .int (Int32.ofNat o), .ref b])) := c6.trans (by
    refine XS.ifNo X5.here hexec rfl (hb hbytes d30) rfl (i0_eq_f hz) ?_
    refine XS.aloadN X5.here hexec rfl (hb hbytes d33) rfl rfl ?_
    refine XS.iloadN X5.here hexec rfl (hb hbytes d34) rfl ?_
    refine XS.iloadN X5.here hexec rfl (hb hbytes d35) rfl ?_
    exact Steps.refl _)
  obtain ⟨v8, T8, X8, E8, g8⟩ := X5.callS hexec (Cmp3.law l b A o len) hown (wks W (staticW "java/lang/String" 177 Cmp3.yN)) (wk W Cmp3.tab) (W := 0) (Nat.le_of_ble_eq_true rfl) (Nat.le_of_ble_eq_true rfl) (Nat.le_refl _) (by show 0 + len ≤ len; omega) (g := (mkF m 36 #[.val (.ref a), .val (.ref b), .val (.int (Int32.ofNat o)), .val (.int (Int32.ofNat len)), .val .null, .unset] [.int (Int32.ofNat len), .int (Int32.ofNat o), .ref b])) rfl (by rw [hml]; rfl) c7 (argsL := [.ref b, .int (Int32.ofNat o), .int (Int32.ofNat len)]) (rest := []) rfl rfl (by show 2 * 0 + 0 ≤ _; decide) (hb hbytes d36) (⟨rfl, hA.mv X5.warmed.alike hh5, l1, l2, hp⟩)
  obtain ⟨e8, z8⟩ := E8
  obtain ⟨rfl, N, n1, n2, n3, n4, n5, n6⟩ := NewArr.mv _ T5 s _ _ hh5.symm (Vm.Alike.refl _) rfl e8
  rw [hh5] at z8
  have hB1 := hB.keep X8.warmed.alike (n6 _ _ hB.1)
  have hne : s.heap.size ≠ a := (Nat.ne_of_lt (Array.getElem?_eq_some_iff.mp hB.1).1).symm
  have c9 : Steps p.tables e below (s₁.setTop (entryFrame m #[.ref a, .ref b, .int (Int32.ofNat o), .int (Int32.ofNat len), .null] 6)) (T8.setTop (mkF m 39 #[.val (.ref a), .val (.ref b), .val (.int (Int32.ofNat o)), .val (.int (Int32.ofNat len)), .val .null, .unset] [.ref s.heap.size])) := g8
  have c10 : Steps p.tables e below (s₁.setTop (entryFrame m #[.ref a, .ref b, .int (Int32.ofNat o), .int (Int32.ofNat len), .null] 6)) (T8.setTop (mkF m 45 #[.val (.ref a), .val (.ref b), .val (.int (Int32.ofNat o)), .val (.int (Int32.ofNat len)), .val .null, .val (.ref s.heap.size)] [.int (Int32.ofNat N.slots.size), .ref s.heap.size, .ref a])) := by
    have hc : Steps p.tables e below (s₁.setTop (entryFrame m #[.ref a, .ref b, .int (Int32.ofNat o), .int (Int32.ofNat len), .null] 6)) (T8.setTop (mkF m 45 #[.val (.ref a), .val (.ref b), .val (.int (Int32.ofNat o)), .val (.int (Int32.ofNat len)), .val .null, .val (.ref s.heap.size)] [.int (Int32.ofNat len), .ref s.heap.size, .ref a])) := c9.trans (by
      refine XS.astore X8.here hexec rfl (hb hbytes d39) rfl rfl rfl ?_
      refine XS.aloadN X8.here hexec rfl (hb hbytes d41) rfl rfl ?_
      refine XS.aload X8.here hexec rfl (hb hbytes d42) rfl rfl ?_
      refine XS.iloadN X8.here hexec rfl (hb hbytes d44) rfl ?_
      exact Steps.refl _)
    rw [n4]; exact hc
  obtain ⟨v11, T11, X11, E11, g11⟩ := X8.callS hexec (CodL.law l s.heap.size N) hown (wks W (staticW "java/lang/String" 47 CodL.yN)) (wk W CodL.tab) (W := 1) (Nat.le_of_ble_eq_true rfl) (Nat.le_of_ble_eq_true rfl) (Nat.le_refl _) (by show 0 + len + 0 ≤ len; omega) (g := (mkF m 45 #[.val (.ref a), .val (.ref b), .val (.int (Int32.ofNat o)), .val (.int (Int32.ofNat len)), .val .null, .val (.ref s.heap.size)] [.int (Int32.ofNat N.slots.size), .ref s.heap.size, .ref a])) rfl (by rw [hml]; rfl) c10 (argsL := [.ref s.heap.size, .int (Int32.ofNat N.slots.size)]) (rest := [.ref a]) rfl rfl (by show 2 * 0 + (1 + 0) ≤ _; decide) (hb hbytes d45) (⟨rfl, n1⟩)
  obtain ⟨rfl, q11⟩ := E11
  have hB11 := hB1.mv (X8.warmed.alike.symm.trans X11.warmed.alike) q11
  have c12 : Steps p.tables e below (s₁.setTop (entryFrame m #[.ref a, .ref b, .int (Int32.ofNat o), .int (Int32.ofNat len), .null] 6)) (T11.setTop (mkF m 48 #[.val (.ref a), .val (.ref b), .val (.int (Int32.ofNat o)), .val (.int (Int32.ofNat len)), .val .null, .val (.ref s.heap.size)] [.int 0, .ref a])) := g11
  obtain ⟨T13, X13, p13, bl13, sl13, st13⟩ := X11.finit hexec hown (wk W (.fieldLink "java/lang/String" 15 "java/lang/String" "coder" "B")) (Or.inr ⟨_, (wk W (.laysFinal "java/lang/String" "java/lang/String" "coder" "B"))⟩) (Or.inl ⟨rfl, hnm⟩) f2 (Or.inl rfl) hB11 (t := .byte) (by decide +kernel) rfl (g := (mkF m 48 #[.val (.ref a), .val (.ref b), .val (.int (Int32.ofNat o)), .val (.int (Int32.ofNat len)), .val .null, .val (.ref s.heap.size)] [.int 0, .ref a])) rfl (rest := []) rfl (hb hbytes d48)
  have c14 : Steps p.tables e below (s₁.setTop (entryFrame m #[.ref a, .ref b, .int (Int32.ofNat o), .int (Int32.ofNat len), .null] 6)) (T13.setTop (mkF m 54 #[.val (.ref a), .val (.ref b), .val (.int (Int32.ofNat o)), .val (.int (Int32.ofNat len)), .val .null, .val (.ref s.heap.size)] [.ref s.heap.size, .ref a])) := (c12.trans (st13 _ (Steps.refl _))).trans (by
    refine XS.aloadN X13.here hexec rfl (hb hbytes d51) rfl rfl ?_
    refine XS.aload X13.here hexec rfl (hb hbytes d52) rfl rfl ?_
    exact Steps.refl _)
  obtain ⟨T15, X15, p15, bl15, sl15, st15⟩ := X13.finit hexec hown (wk W (.fieldLink "java/lang/String" 9 "java/lang/String" "value" "[B")) (Or.inr ⟨_, (wk W (.laysFinal "java/lang/String" "java/lang/String" "value" "[B"))⟩) (Or.inl ⟨rfl, hnm⟩) f1 (Or.inl rfl) bl13 (t := (.array .byte)) (by decide +kernel) rfl (g := (mkF m 54 #[.val (.ref a), .val (.ref b), .val (.int (Int32.ofNat o)), .val (.int (Int32.ofNat len)), .val .null, .val (.ref s.heap.size)] [.ref s.heap.size, .ref a])) rfl (rest := []) rfl (hb hbytes d54)
  have c16 : Steps p.tables e below (s₁.setTop (entryFrame m #[.ref a, .ref b, .int (Int32.ofNat o), .int (Int32.ofNat len), .null] 6)) (T15.setTop (mkF m 57 #[.val (.ref a), .val (.ref b), .val (.int (Int32.ofNat o)), .val (.int (Int32.ofNat len)), .val .null, .val (.ref s.heap.size)] [])) := c14.trans (st15 _ (Steps.refl _))
  have ap := apart (Or.inr ⟨_, (wk W (.laysFinal "java/lang/String" "java/lang/String" "value" "[B"))⟩) (Or.inr ⟨_, (wk W (.laysFinal "java/lang/String" "java/lang/String" "coder" "B"))⟩) f1 f2 (t₁ := .array .byte) (t₂ := .byte) (by decide +kernel) (by decide +kernel) (by decide)
  have al := X8.warmed.alike.symm.trans X15.warmed.alike
  have n7 : T11.heap[s.heap.size]? = some N := by rw [q11]; exact n1.1
  exact ⟨T15, none, _, _, _, X15, by simp, rfl, by omega, (fun _ => rfl), ⟨rfl, _, N, bl15, ((Same.refl D _).set _ (by simp)).set _ (by simp), sl15, (Cell.slots_setSlot_ne _ ap).trans sl13, n1.keep al (p15.other hne (p13.other hne n7)), n2, by rw [al.findClass]; exact n3, n4, n5, fun y c h1 h2 => p15.other h1 (p13.other h1 (by rw [q11]; exact n6 y c h2)), by rw [p15.2.2, p13.2.2, q11]; exact z8⟩, fun fs hl => c16.trans (X15.returnOut hexec hret (hb hbytes d57) hl)⟩
end New4
namespace New1
def yN : MethodName := ⟨"java/lang/String", "<init>", "([C)V"⟩
abbrev yB : ByteArray := jdk_42_method_3_code
theorem d0 : decode yB 0 = .ok (.aload_n 0, 1) := by decide +kernel
theorem d1 : decode yB 1 = .ok (.aload_n 1, 1) := by decide +kernel
theorem d2 : decode yB 2 = .ok (.iconst 0, 1) := by decide +kernel
theorem d3 : decode yB 3 = .ok (.aload_n 1, 1) := by decide +kernel
theorem d4 : decode yB 4 = .ok (.arraylength, 1) := by decide +kernel
theorem d5 : decode yB 5 = .ok (.aconst_null, 1) := by decide +kernel
theorem d6 : decode yB 6 = .ok (.invokespecial 27, 3) := by decide +kernel
theorem d9 : decode yB 9 = .ok (.return_, 1) := by decide +kernel
def site : List Cond := [New4.tab] ++ initW "java/lang/String" 27 New4.yN
def tab : Cond := tabOf yN yB 2 none site
def P (a : Addr) (D : Cell) (fV fC : Field) (b : Addr) (A : Cell) (z : Int32) (args : Array Value) (s : State) : Prop := args = #[.ref a, .ref b] ∧ Blank "java/lang/String" a D s ∧ Found "java/lang/String" "value" "[B" fV s ∧ Found "java/lang/String" "coder" "B" fC s ∧ Ch b A s ∧ StaticIs s "java/lang/String" "COMPACT_STRINGS" "Z" (.int z) ∧ ¬ z = 0 ∧ 0 < A.slots.size ∧ A.slots.size ≤ 536870912 ∧ ∀ i, i < A.slots.size → ¬ 255 < cv A i
def E (a : Addr) (D : Cell) (fV fC : Field) (A : Cell) (r : Option Value) (s u : State) : Prop := Got a D fV fC A 0 A.slots.size r s u
theorem law (l : Launch) (a : Addr) (D : Cell) (fV fC : Field) (b : Addr) (A : Cell) (z : Int32) : Law l yN 2 1 3 52 yB 2 none site (P a D fV fC b A z) (E a D fV fC A) [⟨a, fC.slot⟩, ⟨a, fV.slot⟩] 1 A.slots.size := by
  refine Law.of_walk (plainFor_of_name (by decide +kernel)) (by decide +kernel) (by decide +kernel) (by decide) (fun _ _ h => by rw [h.1]; rfl) (fun _ U U' hal hh h => ⟨h.1, h.2.1.mv hal hh, h.2.2.1.al hal, h.2.2.2.1.al hal, h.2.2.2.2.1.mv hal hh, h.2.2.2.2.2.1.there hal hh, h.2.2.2.2.2.2⟩) (fun r U U' V V' h1 hal h2 h => Got.mv r U U' V V' h1 hal h2 h) ?_
  intro p e s m args below meth c s₁ X0 hexec hbytes hml hret hlk hnm hown hh0 W hP
  obtain ⟨rfl, hB, f1, f2, hA, s1, hz, l0, l2, hp⟩ := hP
  have c1 : Steps p.tables e below (s₁.setTop (entryFrame m #[.ref a, .ref b] 2)) (s₁.setTop (mkF m 0 #[.val (.ref a), .val (.ref b)] [])) := entry rfl
  have c2 : Steps p.tables e below (s₁.setTop (entryFrame m #[.ref a, .ref b] 2)) (s₁.setTop (mkF m 6 #[.val (.ref a), .val (.ref b)] [.null, .int (Int32.ofNat A.slots.size), .int 0, .ref b, .ref a])) := c1.trans (by
    refine XS.aloadN X0.here hexec rfl (hb hbytes d0) rfl rfl ?_
    refine XS.aloadN X0.here hexec rfl (hb hbytes d1) rfl rfl ?_
    refine iconstV X0.here hexec rfl 0 (hb hbytes d2) (by decide) ?_
    refine XS.aloadN X0.here hexec rfl (hb hbytes d3) rfl rfl ?_
    refine X0.alen hexec (hA.1.mv X0.warmed.alike hh0) rfl rfl (hb hbytes d4) ?_
    refine XS.aconstNull X0.here hexec rfl (hb hbytes d5) ?_
    exact Steps.refl _)
  obtain ⟨v3, T3, X3, E3, g3⟩ := X0.callN hexec (New4.law l a D fV fC b A z 0 A.slots.size) rfl hown (wks W (initW "java/lang/String" 27 New4.yN)) (W New4.tab (by simp only [site, List.mem_cons, List.mem_append, true_or, or_true])) (W := 0) (Nat.le_of_ble_eq_true rfl) (Nat.le_of_ble_eq_true rfl) (Nat.le_refl _) (by show 0 + A.slots.size ≤ A.slots.size; omega) (g := (mkF m 6 #[.val (.ref a), .val (.ref b)] [.null, .int (Int32.ofNat A.slots.size), .int (Int32.ofNat 0), .ref b, .ref a])) rfl (by rw [hml]; rfl) c2 (argsL := [.ref b, .int (Int32.ofNat 0), .int (Int32.ofNat A.slots.size), .null]) (rest := []) rfl rfl (by show 2 * 0 + 0 ≤ _; decide) (hb hbytes d6) (⟨rfl, hB.mv X0.warmed.alike hh0, f1.al X0.warmed.alike, f2.al X0.warmed.alike, hA.mv X0.warmed.alike hh0, s1.there X0.warmed.alike hh0, hz, l0, by omega, l2, fun i hi => by rw [Nat.zero_add]; exact hp i hi⟩)
  have e0 := Got.mv _ s₁ s _ _ hh0.symm (Vm.Alike.refl _) rfl E3
  obtain rfl := e0.1
  have c4 : Steps p.tables e below (s₁.setTop (entryFrame m #[.ref a, .ref b] 2)) (T3.setTop (mkF m 9 #[.val (.ref a), .val (.ref b)] [])) := g3
  exact ⟨T3, none, _, _, _, X3, by simp, rfl, by omega, (fun _ => rfl), e0, fun fs hl => c4.trans (X3.returnOut hexec hret (hb hbytes d9) hl)⟩
theorem pays {l : Launch} {R : Room} {p : Program} {e : Env} {below : List Frame} {s : State} {sargs : Array Value} {len W : Nat} (a : Addr) (D : Cell) (fV fC : Field) (b : Addr) (A : Cell) (z : Int32) (htab : tab.before sargs s = true) (hfr : 4 ≤ R.frames) (hlo : W + 65 ≤ R.locals) :
    Back l R p e below s sargs yN len W (fun A₁ a₁ => A₁.cells + 1 ≤ R.cells ∧ A₁.slots + A.slots.size ≤ R.slots ∧ P a D fV fC b A z a₁ A₁.U) (fun A₁ _ v₁ B₁ => E a D fV fC A v₁ A₁.U B₁.U ∧ B₁.locs = A₁.locs ++ [⟨a, fC.slot⟩, ⟨a, fV.slot⟩] ∧ B₁.cells = A₁.cells + 1 ∧ B₁.slots = A₁.slots + A.slots.size) :=
  (law l a D fV fC b A z).pays htab hfr (by omega)
end New1
end StrChars
namespace StrChars.Road
open Jvm Sem ClassFile Op Lib Jvm.Stand Jvm.Free Jvm.Free.XT
open Jvm.Lib.Cold (StaticIs)
abbrev ST : String := "java/lang/String"
abbrev words : List Jvm.Cond := [.code New1.yN New1.yB 2 none, .initialized ST, .methodLink ST 27 New4.yN, .instanceMethod New4.yN,
  .code New4.yN New4.yB 6 none, .fieldLink ST 38 ST "COMPACT_STRINGS" "Z", .laysFinal ST ST "value" "[B", .fieldLink ST 9 ST "value" "[B", .laysFinal ST ST "coder" "B", .fieldLink ST 15 ST "coder" "B",
  .methodLink ST 1 Lib.objectInit, .instanceMethod Lib.objectInit, .code Lib.objectInit ⟨#[0xb1]⟩ 1 none, .methodLink ST 177 Cmp3.yN, .static Cmp3.yN, .methodLink ST 47 CodL.yN, .static CodL.yN,
  .code Cmp3.yN Cmp3.yB 6 (some (.array .byte)), .initialized U16, .arrayClass .byte, .methodLink U16 115 Cmp5.yN, .static Cmp5.yN, .code Cmp5.yN Cmp5.yB 7 (some .int), .code CodL.yN CodL.yB 2 (some .byte)]
theorem tab_of {a : Array Value} {s : State} (h : ∀ w ∈ words, w.before a s = true) : New1.tab.before a s = true := by
  have h5 : Cmp5.tab.before a s = true := unparts (wk h (.code Cmp5.yN Cmp5.yB 7 (some .int))) (wks h (.initialized Cmp5.yN.cls :: Cmp5.site))
  have hc : CodL.tab.before a s = true := unparts (wk h (.code CodL.yN CodL.yB 2 (some .byte))) (wks h (.initialized CodL.yN.cls :: CodL.site))
  have q5 : ∀ w ∈ Cmp5.tab :: words, w.before a s = true := fun w hw => (List.mem_cons.mp hw).elim (fun e => e ▸ h5) (h w)
  have h3 : Cmp3.tab.before a s = true := unparts (wk q5 (.code Cmp3.yN Cmp3.yB 6 (some (.array .byte)))) (wks q5 (.initialized Cmp3.yN.cls :: Cmp3.site))
  have q3 : ∀ w ∈ Cmp3.tab :: CodL.tab :: words, w.before a s = true := fun w hw => (List.mem_cons.mp hw).elim (fun e => e ▸ h3) fun hw => (List.mem_cons.mp hw).elim (fun e => e ▸ hc) (h w)
  have h4 : New4.tab.before a s = true := unparts (wk q3 (.code New4.yN New4.yB 6 none)) (wks q3 (.initialized New4.yN.cls :: New4.site))
  have q4 : ∀ w ∈ New4.tab :: words, w.before a s = true := fun w hw => (List.mem_cons.mp hw).elim (fun e => e ▸ h4) (h w)
  exact unparts (wk q4 (.code New1.yN New1.yB 2 none)) (wks q4 (.initialized New1.yN.cls :: New1.site))
theorem moved {Z s : State} {a0 args : Array Value} (hZ : Z.Warmed39 s.vm) (hw : ∀ d ∈ words, d.before a0 Z = true) : ∀ d ∈ words, d.before args s = true := fun d hd => by
  have q := hw d hd
  have t : ∀ d ∈ words, d = .arrayClass .byte ∨ (d.onTables && d.keepsFace) = true := by decide +kernel
  rcases t d hd with rfl | t
  · exact RoadKit.mvA hZ q
  · exact RoadKit.mv hZ q t
def Q (Z : State) (x : Addr) (A : Cell) (h : Heap) (v : Option Value) (h' : Heap) (L : List Loc) : Prop := v = none ∧ (∀ y ∈ L, y.base = x) ∧ RoadKit.Keep h h' [x] ∧ h'.size = h.size + 1 ∧ RoadKit.Exa Z h' x ST ∧ RoadKit.Fld Z h' x ST "value" "[B" (.ref h.size) ∧ RoadKit.Fld Z h' x ST "coder" "B" (.int 0) ∧
  (∃ V : Cell, RoadKit.Arr Z h' h.size V .byte ∧ V.vm = .none ∧ Z.vm.findClass "[B" = some V.cls ∧ V.slots.size = A.slots.size ∧ ∀ j, j < A.slots.size → V.slots[j]? = some (.int (lo8 (cv A j)))) ∧
  ∀ (O n d : String) (w : Value), RoadKit.Fld Z h x O n d w → RoadKit.slotOf Z O n d ≠ RoadKit.slotOf Z ST "value" "[B" → RoadKit.slotOf Z O n d ≠ RoadKit.slotOf Z ST "coder" "B" → RoadKit.Fld Z h' x O n d w
theorem back {p : Program} {l : Launch} {e : Env} {R : Room} {s : State} {args : Array Value} {below : List Frame} {len W : Nat} {Z : State} {a0 : Array Value} {h : Heap} (hZ : Z.Warmed39 s.vm) (hw : ∀ d ∈ words, d.before a0 Z = true) {kI : Nat} (wi : (Jvm.Cond.instantiable ST kI).before a0 Z = true)
    {x b : Addr} {A : Cell} {z : Int32} {v0 c0 : Value} (E : RoadKit.Exa Z h x ST) (V : RoadKit.Fld Z h x ST "value" "[B" v0) (C : RoadKit.Fld Z h x ST "coder" "B" c0) (K : RoadKit.Arr Z h b A .char) (hty : Typed .char A) (S : RoadKit.Sta Z h ST "COMPACT_STRINGS" "Z" (.int z)) (hz : ¬ z = 0)
    (l0 : 0 < A.slots.size) (l2 : A.slots.size ≤ 536870912) (hp : ∀ i, i < A.slots.size → ¬ 255 < cv A i) (hfr : 4 ≤ R.frames) (hlo : W + 65 ≤ R.locals) :
    Back l R p e below s args New1.yN len W (fun P a => a = #[.ref x, .ref b] ∧ P.U.heap = h ∧ P.cells + 1 ≤ R.cells ∧ P.slots + A.slots.size ≤ R.slots)
      (fun P _ v B => ∃ L, Q Z x A h v B.U.heap L ∧ B.locs = P.locs ++ L ∧ B.cells = P.cells + 1 ∧ B.slots = P.slots + A.slots.size) := by
  intro m meth c P g ig mk a X hg hsize hdg hW hn hp'
  obtain ⟨rfl, rfl, r1, r2⟩ := hp'
  have al : Z.vm.Alike P.U.vm := hZ.alike.trans X.warmed.alike
  obtain ⟨D, cfV, kV, iV, fV, hD, gV, stV, knV, obV, asV, slV⟩ := id V
  obtain ⟨D', cfC, kC, iC, fC, hD', gC, stC, -, -, asC, slC⟩ := id C
  cases hD.symm.trans hD'
  obtain ⟨D2, kD, e1, e2, e3, e4, e5⟩ := id E
  cases hD.symm.trans e1
  obtain ⟨c2, k2, i1, i2, i3, -⟩ := Cond.instantiable_spec wi
  cases e2.symm.trans i1
  cases e3.symm.trans i2
  obtain ⟨kU, u1, u2⟩ := al.2.2 _ _ e3
  have hB : Blank ST x D P.U := ⟨hD, ⟨knV, fun q hq => by rw [hq] at obV; cases obV⟩, by rw [al.findClass]; exact e2, kU, u1, by rw [u2]; exact i3, by rw [u2]; exact e5 i3⟩
  have F1 : Found ST "value" "[B" fV P.U := ⟨SBG.found_only al ⟨cfV, kV, iV, gV⟩, stV⟩
  have F2 : Found ST "coder" "B" fC P.U := ⟨SBG.found_only al ⟨cfC, kC, iC, gC⟩, stC⟩
  have hA : Ch b A P.U := ⟨⟨K.1, State.isArrayOf_alike al K.2.1, K.2.2, by omega⟩, hty⟩
  have hS : StaticIs P.U ST "COMPACT_STRINGS" "Z" (.int z) := by
    obtain ⟨cfS, iS, kS, fS, st, cS, t1, t2, t3, t4, t5, t6, t7⟩ := S
    exact StaticIs.there (s := { Z with heap := P.U.heap }) ⟨cfS, iS, kS, fS, st, cS, t1, t2, t3, t4, t5, (fun q => by rw [q] at t6; cases t6), t7⟩ al rfl
  obtain ⟨v, B, X', ⟨⟨hv, E', V', q1, q2, q3, q4, q5, q6, q7, q8, q9, q10, q11⟩, hl, hc, hs⟩, st⟩ := New1.pays x D fV fC b A z (tab_of (moved hZ hw)) hfr hlo m meth c P g ig mk _ X hg hsize hdg hW hn ⟨r1, r2, rfl, hB, F1, F2, hA, hS, hz, l0, l2, hp⟩
  have al' : Z.vm.Alike B.U.vm := hZ.alike.trans X'.warmed.alike
  have hsz : E'.slots.size = D.slots.size := by
    obtain ⟨-, -, -, kB, w1, w2, w3⟩ := q1
    obtain ⟨kB', y1, y2⟩ := al'.2.2 _ _ e3
    rw [q2.2.1] at w1
    cases w1.symm.trans y1
    rw [w3, e5 i3, y2]
  refine ⟨v, B, X', ⟨_, ⟨hv, ?_, ⟨by omega, fun y cy hy hn' => q10 y cy (by simpa using hn') hy, fun y cy hy => ?_⟩, q11, ⟨E', _, q1.1, by rw [q2.2.1]; exact e2, by rw [q2.2.1]; exact e3, by rw [q2.1]; exact obV, fun _ => by rw [hsz]; exact e5 i3⟩,
    ⟨E', cfV, kV, iV, fV, q1.1, gV, stV, by rw [q2.1]; exact knV, by rw [q2.1]; exact obV, by rw [q2.2.1]; exact asV, q3⟩, ⟨E', cfC, kC, iC, fC, q1.1, gC, stC, by rw [q2.1]; exact knV, by rw [q2.1]; exact obV, by rw [q2.2.1]; exact asC, q4⟩,
    ⟨V', ⟨q5.1, State.isArrayOf_alike al'.symm q5.2.1, q5.2.2.1⟩, q6, by rw [← al'.findClass]; exact q7, q8, fun j hj => by have := q9 j hj; rwa [Nat.zero_add] at this⟩, fun O n d w F n1 n2 => ?_⟩, hl, hc, hs⟩, st⟩
  · intro y hy
    simp only [List.mem_cons, List.not_mem_nil, or_false] at hy
    rcases hy with rfl | rfl <;> rfl
  · by_cases q : y = x
    · subst q
      cases hD.symm.trans hy
      exact ⟨E', q1.1, q2.2.1, q2.1, hsz⟩
    · exact ⟨cy, q10 y cy q hy, rfl, rfl, rfl⟩
  · obtain ⟨D3, cf, k, i, f, g1, g2, g3, g4, g5, g6, g7⟩ := F
    cases hD.symm.trans g1
    simp only [RoadKit.slotOf, g2, gV, gC, Option.map_some, Option.getD_some] at n1 n2
    exact ⟨E', cf, k, i, f, q1.1, g2, g3, by rw [q2.1]; exact g4, by rw [q2.1]; exact g5, by rw [q2.2.1]; exact g6, by rw [q2.2.2 f.slot (by simp [n1, n2])]; exact g7⟩
end StrChars.Road
namespace StrChars.Road
open Jvm Sem ClassFile Op Lib Jvm.Stand Jvm.Free Jvm.Free.XT
def QA (Z : State) (x : Addr) (zn : Int32) (cs : List Int32) (h : Heap) (v : Option Value) (h' : Heap) (L : List Loc) : Prop := v = none ∧ (∀ y ∈ L, y.base = x) ∧ RoadKit.Keep h h' [x] ∧ h'.size = h.size + 1 ∧ RoadKit.Exa Z h' x ST ∧ RoadKit.Fld Z h' x ST "value" "[B" (.ref h.size) ∧ RoadKit.Fld Z h' x ST "coder" "B" (.int 0) ∧
  (∃ kb, Z.vm.findClass "[B" = some kb ∧ RoadKit.Arv Z h' h.size kb .byte zn (cs.map fun c => .int (lo8 c)) (.int 0)) ∧
  ∀ (O n d : String) (w : Value), RoadKit.Fld Z h x O n d w → RoadKit.slotOf Z O n d ≠ RoadKit.slotOf Z ST "value" "[B" → RoadKit.slotOf Z O n d ≠ RoadKit.slotOf Z ST "coder" "B" → RoadKit.Fld Z h' x O n d w
theorem backArv {p : Program} {l : Launch} {e : Env} {R : Room} {s : State} {args : Array Value} {below : List Frame} {len W : Nat} {Z : State} {a0 : Array Value} {h : Heap} (hZ : Z.Warmed39 s.vm) (hw : ∀ d ∈ words, d.before a0 Z = true) {kI : Nat} (wi : (Jvm.Cond.instantiable ST kI).before a0 Z = true)
    {x b : Addr} {k : ClassId} {zn z : Int32} {cs : List Int32} {dv v0 c0 : Value} (E : RoadKit.Exa Z h x ST) (V : RoadKit.Fld Z h x ST "value" "[B" v0) (C : RoadKit.Fld Z h x ST "coder" "B" c0) (K : RoadKit.Arv Z h b k .char zn (cs.map Value.int) dv) (S : RoadKit.Sta Z h ST "COMPACT_STRINGS" "Z" (.int z)) (hz : ¬ z = 0)
    (hlen : zn.toNatClampNeg = cs.length) (h0 : 0 < cs.length) (hbig : cs.length ≤ 536870912) (hall : ∀ c ∈ cs, ¬ 255 < c) (hfr : 4 ≤ R.frames) (hlo : W + 65 ≤ R.locals) :
    Back l R p e below s args New1.yN len W (fun P a => a = #[.ref x, .ref b] ∧ P.U.heap = h ∧ P.cells + 1 ≤ R.cells ∧ P.slots + cs.length ≤ R.slots)
      (fun P _ v B => ∃ L, QA Z x zn cs h v B.U.heap L ∧ B.locs = P.locs ++ L ∧ B.cells = P.cells + 1 ∧ B.slots = P.slots + cs.length) := by
  obtain ⟨A, K1, K2, K3, K4, K5, K6⟩ := K
  have e : A.slots.size = cs.length := K3.trans hlen
  have hat : ∀ (i : Nat) (hi : i < cs.length), A.slots[i]? = some (.int cs[i]) := fun i hi => by rw [K5 i (by omega)]; simp [List.getD_eq_getElem?_getD, hi]
  have hcv : ∀ (i : Nat) (hi : i < cs.length), cv A i = cs[i] := fun i hi => by unfold cv; rw [hat i hi]
  have hty : Typed .char A := fun i v hv => by
    have hi : i < A.slots.size := (Array.getElem?_eq_some_iff.mp hv).1
    have q := K5 i hi
    rw [hv] at q
    rw [Option.some.inj q]
    exact K6 i hi
  refine Back.mono (back hZ hw wi E V C K1 hty S hz (by omega) (by omega) (fun i hi => by rw [hcv i (by omega)]; exact hall _ (List.getElem_mem _)) hfr hlo) (fun P a hp => ⟨hp.1, hp.2.1, hp.2.2.1, by rw [e]; exact hp.2.2.2⟩) (fun P a v B hp hq => ?_)
  obtain ⟨L, ⟨q1, q2, q3, q4, q5, q6, q7, ⟨V', v1, v2, v3, v4, v5⟩, q9⟩, hl, hc, hs⟩ := hq
  refine ⟨L, ⟨q1, q2, q3, q4, q5, q6, q7, ⟨V'.cls, v3, V', v1, rfl, by rw [v4, e, hlen], K4, fun i hi => ?_, fun i hi => ?_⟩, q9⟩, hl, hc, by rw [hs, e]⟩
  · have hi' : i < cs.length := by omega
    rw [v5 i (by omega), hcv i hi']; simp [List.getD_eq_getElem?_getD, hi']
  · have hi' : i < cs.length := by omega
    simp only [List.getD_eq_getElem?_getD, List.getElem?_map, List.getElem?_eq_getElem hi', Option.map_some, Option.getD_some]
    exact fits_lo8 _
end StrChars.Road
namespace StrChars.Road
open Jvm Sem ClassFile Op Lib Jvm.Stand Jvm.Free Jvm.Free.XT
def QV (Z : State) (x : Addr) (N : Int32) (bs : List Int32) (h : Heap) (n0 : Nat) (v : Option Value) (h' : Heap) (L : List Loc) : Prop := v = none ∧ RoadKit.Fr n0 L ∧ RoadKit.Keep h h' [x] ∧ RoadKit.Exa Z h' x ST ∧ RoadKit.Fld Z h' x ST "coder" "B" (.int 0) ∧
  ∃ (t : Addr) (kb : ClassId), n0 ≤ t ∧ h.size ≤ t ∧ ¬ t = x ∧ RoadKit.Fld Z h' x ST "value" "[B" (.ref t) ∧ RoadKit.Arv Z h' t kb .byte N (bs.map Value.int) (.int 0)
theorem backV {p : Program} {l : Launch} {e : Env} {R : Room} {s : State} {args : Array Value} {below : List Frame} {len W : Nat} {Z : State} {a0 : Array Value} {h : Heap} (hZ : Z.Warmed39 s.vm) (hw : ∀ d ∈ words, d.before a0 Z = true) {kI : Nat} (wi : (Jvm.Cond.instantiable ST kI).before a0 Z = true)
    {x b : Addr} {kC : ClassId} {cs bs : List Int32} {d v0 c0 : Value} {z N : Int32} {n n0 : Nat} (hx0 : n0 ≤ x) (hh0 : n0 ≤ h.size) (E : RoadKit.Exa Z h x ST) (V : RoadKit.Fld Z h x ST "value" "[B" v0) (C : RoadKit.Fld Z h x ST "coder" "B" c0) (K : RoadKit.Arv Z h b kC .char N (cs.map Value.int) d) (S : RoadKit.Sta Z h ST "COMPACT_STRINGS" "Z" (.int z)) (hz : ¬ z = 0)
    (hn : cs.length = n) (hN : N = Int32.ofNat n) (l0 : 0 < n) (l2 : n ≤ 4000) (hp : ∀ c ∈ cs, ¬ c < 0 ∧ ¬ (255 : Int32) < c) (hb : bs = cs.map (fun c => c.toInt8.toInt32)) (hfr : 4 ≤ R.frames) (hlo : W + 65 ≤ R.locals) :
    Back l R p e below s args (⟨"java/lang/String", "<init>", "([C)V"⟩ : MethodName) len W (fun P a => a = #[.ref x, .ref b] ∧ P.U.heap = h ∧ P.cells + 1 ≤ R.cells ∧ P.slots + n ≤ R.slots)
      (fun P _ v B => ∃ L, QV Z x N bs h n0 v B.U.heap L ∧ B.locs = P.locs ++ L ∧ B.cells = P.cells + 1 ∧ B.slots = P.slots + n) := by
  subst hn hN hb
  refine Back.mono (backArv hZ hw wi E V C K S hz (n32 (by omega)) l0 (by omega) (fun c hc => (hp c hc).2) hfr hlo) (fun P a hp => hp) (fun P a v B hp hq => ?_)
  obtain ⟨L, ⟨q1, q2, q3, q4, q5, q6, q7, ⟨kb, v1, v2⟩, q9⟩, hl, hc, hs⟩ := hq
  exact ⟨L, ⟨q1, fun y hy => by rw [q2 y hy]; exact hx0, q3, q5, q7, h.size, kb, hh0, Nat.le_refl _, Nat.ne_of_gt E.lt, q6, by rw [List.map_map]; exact v2⟩, hl, hc, hs⟩
end StrChars.Road
end Jvm.Pilot.@@N@@
namespace Jvm.Pilot.@@N@@
open Jvm Jvm.ClassFile Sem Op Lib Jvm.Free Jvm.Stand Jvm.LawKit Jvm.RoadKit Bundle Jvm.Own Jvm.Pilot.@@N@@.Jvm.D
section Words
variable {Z : State} {a0 : Array Value}
theorem nb {a b : Nat} (h : Nat.ble a b = true) : a ≤ b := Nat.le_of_ble_eq_true h
abbrev HW (Z : State) (a0 : Array Value) : Prop := ∀ d ∈ tables_1, d.before a0 Z = true
abbrev BF (Z : State) (a0 : Array Value) (d : Jvm.Cond) : Prop := d.before a0 Z = true
theorem wd (hw : HW Z a0) (i : Nat) {d : Jvm.Cond} (h : tables_1[i]? = some d) : BF Z a0 d := hw _ (List.mem_of_getElem? h)
abbrev DE (b : ByteArray) (n : Nat) (i : Instr) (k : Nat) : Prop := decode b n = .ok (i, k)
abbrev DD (b : ByteArray) (L : List (Nat × Instr × Nat)) : Prop := ∀ (i : Nat) {n : Nat} {x : Instr} {k : Nat}, L[i]? = some (n, x, k) → decode b n = .ok (x, k)
def dq (b : ByteArray) (n : Nat) (x : Instr) (k : Nat) : Bool := decide (decode b n = .ok (x, k))
theorem dd {b : ByteArray} {L : List (Nat × Instr × Nat)} (h : L.all (fun t => dq b t.1 t.2.1 t.2.2) = true) : DD b L := fun i n x k e => of_decide_eq_true (List.all_eq_true.mp h (n, x, k) (List.mem_of_getElem? e))
theorem lT {a b c : Nat} (h : a ≤ b) (k : b ≤ c) : a ≤ c := Nat.le_trans h k
theorem lL {a b c : Nat} (h : a < b) (k : b ≤ c) : a < c := Nat.lt_of_lt_of_le h k
theorem nL {a b : Nat} (h : a < b) : a ≠ b := Nat.ne_of_lt h
theorem kR (h : Heap) (ws : List Addr) : Keep h h ws := Keep.refl h ws
theorem kT {h h' h'' : Heap} {ws vs : List Addr} (K : Keep h h' ws) (K' : Keep h' h'' vs) (q : ∀ x ∈ vs, x ∈ ws ∨ h.size ≤ x) : Keep h h'' ws := Keep.trans K K' q
theorem m0 {a : Addr} {r : List Addr} {P : Prop} : a ∈ a :: r ∨ P := Or.inl (.head _)
theorem m1 {a b : Addr} {r : List Addr} {P : Prop} : a ∈ b :: a :: r ∨ P := Or.inl (.tail _ (.head _))
theorem pn_537472696e67_6 : plainName "java/lang/String" = true := by first | (simp [plainName, overriddenIn]; done) | decide +kernel
theorem W35 (hw : HW Z a0) : BF Z a0 (.fieldLink "java/lang/String" (9 : Nat) "java/lang/String" "value" "[B") := wd hw 35 rfl
theorem pd_282942 : parseMethodDescriptor "()B" = some ⟨[], (some .byte)⟩ := by decide +kernel
theorem W68 (hw : HW Z a0) : BF Z a0 (.selects "java/lang/String" ⟨"java/lang/String", "coder", "()B"⟩ ⟨"java/lang/String", "coder", "()B"⟩) := wd hw 68 rfl
theorem W10 (hw : HW Z a0) : BF Z a0 (.initialized "java/lang/String") := wd hw 10 rfl
theorem pn_417272617973_10 : plainName "java/util/Arrays" = true := by first | (simp [plainName, overriddenIn]; done) | decide +kernel
theorem pn_6974696f6e73_12 : plainName "jdk/internal/util/Preconditions" = true := by first | (simp [plainName, overriddenIn]; done) | decide +kernel
theorem pd_21 : parseMethodDescriptor "(IILjava/util/function/BiFunction;)I" = some ⟨[.int, .int, (.object "java/util/function/BiFunction")], (some .int)⟩ := by decide +kernel
theorem pd_2849492956 : parseMethodDescriptor "(II)V" = some ⟨[.int, .int], none⟩ := by decide +kernel
theorem pn_4c6174696e31_8 : plainName "java/lang/StringLatin1" = true := by first | (simp [plainName, overriddenIn]; done) | decide +kernel
theorem W55 (hw : HW Z a0) : BF Z a0 (.methodLink "java/lang/String" (492 : Nat) ⟨"java/lang/String", "isLatin1", "()Z"⟩) := wd hw 55 rfl
theorem pd_28295a : parseMethodDescriptor "()Z" = some ⟨[], (some .boolean)⟩ := by decide +kernel
theorem W56 (hw : HW Z a0) : BF Z a0 (.declares ⟨"java/lang/String", "isLatin1", "()Z"⟩) := wd hw 56 rfl
theorem W58 (hw : HW Z a0) : BF Z a0 (.selects "java/lang/String" ⟨"java/lang/String", "isLatin1", "()Z"⟩ ⟨"java/lang/String", "isLatin1", "()Z"⟩) := wd hw 58 rfl
theorem W57 (hw : HW Z a0) : BF Z a0 (.instanceMethod ⟨"java/lang/String", "isLatin1", "()Z"⟩) := wd hw 57 rfl
theorem W59 (hw : HW Z a0) : BF Z a0 (.code ⟨"java/lang/String", "isLatin1", "()Z"⟩ jdk_42_method_154_code (1 : Nat) (Option.some Jvm.ClassFile.FieldType.boolean)) := wd hw 59 rfl
theorem pd_285b42492943 : parseMethodDescriptor "([BI)C" = some ⟨[(.array .byte), .int], (some .char)⟩ := by decide +kernel
theorem W72 (hw : HW Z a0) : BF Z a0 (.initialized "java/lang/StringLatin1") := wd hw 72 rfl
theorem pd_2849295a : parseMethodDescriptor "(I)Z" = some ⟨[.int], (some .boolean)⟩ := by decide +kernel
theorem pd_2849492949 : parseMethodDescriptor "(II)I" = some ⟨[.int, .int], (some .int)⟩ := by decide +kernel
theorem pd_285b424949492949 : parseMethodDescriptor "([BIII)I" = some ⟨[(.array .byte), .int, .int, .int], (some .int)⟩ := by decide +kernel
theorem W60 (hw : HW Z a0) : BF Z a0 (.methodLink "java/lang/String" (505 : Nat) ⟨"java/lang/String", "length", "()I"⟩) := wd hw 60 rfl
theorem pd_282949 : parseMethodDescriptor "()I" = some ⟨[], (some .int)⟩ := by decide +kernel
theorem W61 (hw : HW Z a0) : BF Z a0 (.declares ⟨"java/lang/String", "length", "()I"⟩) := wd hw 61 rfl
theorem W63 (hw : HW Z a0) : BF Z a0 (.selects "java/lang/String" ⟨"java/lang/String", "length", "()I"⟩ ⟨"java/lang/String", "length", "()I"⟩) := wd hw 63 rfl
theorem W62 (hw : HW Z a0) : BF Z a0 (.instanceMethod ⟨"java/lang/String", "length", "()I"⟩) := wd hw 62 rfl
theorem W64 (hw : HW Z a0) : BF Z a0 (.code ⟨"java/lang/String", "length", "()I"⟩ jdk_42_method_54_code (1 : Nat) (Option.some Jvm.ClassFile.FieldType.int)) := wd hw 64 rfl
theorem W53 (hw : HW Z a0) : BF Z a0 (.selects "java/lang/String" ⟨"java/lang/String", "indexOf", "(II)I"⟩ ⟨"java/lang/String", "indexOf", "(II)I"⟩) := wd hw 53 rfl
theorem pn_7570706f7274_11 : plainName "jdk/internal/util/ArraysSupport" = true := by first | (simp [plainName, overriddenIn]; done) | decide +kernel
theorem pd_285b42495b4249492949 : parseMethodDescriptor "([BI[BII)I" = some ⟨[(.array .byte), .int, (.array .byte), .int, .int], (some .int)⟩ := by decide +kernel
theorem pd_35 : parseMethodDescriptor "(Ljava/lang/String;I)Z" = some ⟨[(.object "java/lang/String"), .int], (some .boolean)⟩ := by decide +kernel
theorem W109 (hw : HW Z a0) : BF Z a0 (.declares ⟨"java/lang/String", "startsWith", "(Ljava/lang/String;I)Z"⟩) := wd hw 109 rfl
theorem W111 (hw : HW Z a0) : BF Z a0 (.selects "java/lang/String" ⟨"java/lang/String", "startsWith", "(Ljava/lang/String;I)Z"⟩ ⟨"java/lang/String", "startsWith", "(Ljava/lang/String;I)Z"⟩) := wd hw 111 rfl
theorem W110 (hw : HW Z a0) : BF Z a0 (.instanceMethod ⟨"java/lang/String", "startsWith", "(Ljava/lang/String;I)Z"⟩) := wd hw 110 rfl
theorem W112 (hw : HW Z a0) : BF Z a0 (.code ⟨"java/lang/String", "startsWith", "(Ljava/lang/String;I)Z"⟩ jdk_42_method_75_code (8 : Nat) (Option.some Jvm.ClassFile.FieldType.boolean)) := wd hw 112 rfl
theorem pd_20 : parseMethodDescriptor "(IIILjava/util/function/BiFunction;)I" = some ⟨[.int, .int, .int, (.object "java/util/function/BiFunction")], (some .int)⟩ := by decide +kernel
theorem W132 (hw : HW Z a0) : BF Z a0 (.initialized "java/util/Arrays") := wd hw 132 rfl
theorem W26 (hw : HW Z a0) : BF Z a0 (.arrayClass Jvm.ClassFile.FieldType.byte) := wd hw 26 rfl
theorem pd_285b424949295b42 : parseMethodDescriptor "([BII)[B" = some ⟨[(.array .byte), .int, .int], (some (.array .byte))⟩ := by decide +kernel
theorem W19 (hw : HW Z a0) : BF Z a0 (.instanceMethod ⟨"java/lang/Object", "<init>", "()V"⟩) := wd hw 19 rfl
theorem W20 (hw : HW Z a0) : BF Z a0 (.code ⟨"java/lang/Object", "<init>", "()V"⟩ object_method_1_code (1 : Nat) (Option.none : Option Jvm.ClassFile.FieldType)) := wd hw 20 rfl
theorem W36 (hw : HW Z a0) : BF Z a0 (.laysFinal "java/lang/String" "java/lang/String" "value" "[B") := wd hw 36 rfl
theorem W9 (hw : HW Z a0) : BF Z a0 (.instantiable "java/lang/String" (4 : Nat)) := wd hw 9 rfl
theorem W34 (hw : HW Z a0) : BF Z a0 (.laysFinal "java/lang/String" "java/lang/String" "coder" "B") := wd hw 34 rfl
theorem pd_285b42422956 : parseMethodDescriptor "([BB)V" = some ⟨[(.array .byte), .byte], none⟩ := by decide +kernel
theorem W304 (hw : HW Z a0) : BF Z a0 (.stringLink "java/lang/StringLatin1" (151 : Nat) "") := wd hw 304 rfl
theorem pd_284949492956 : parseMethodDescriptor "(III)V" = some ⟨[.int, .int, .int], none⟩ := by decide +kernel
theorem W126 (hw : HW Z a0) : BF Z a0 (.methodLink "java/lang/String" (685 : Nat) ⟨"java/lang/StringLatin1", "newString", "([BII)Ljava/lang/String;"⟩) := wd hw 126 rfl
theorem pd_45 : parseMethodDescriptor "([BII)Ljava/lang/String;" = some ⟨[(.array .byte), .int, .int], (some (.object "java/lang/String"))⟩ := by decide +kernel
theorem W127 (hw : HW Z a0) : BF Z a0 (.static ⟨"java/lang/StringLatin1", "newString", "([BII)Ljava/lang/String;"⟩) := wd hw 127 rfl
theorem W128 (hw : HW Z a0) : BF Z a0 (.code ⟨"java/lang/StringLatin1", "newString", "([BII)Ljava/lang/String;"⟩ jdk_43_method_47_code (3 : Nat) (Option.some (Jvm.ClassFile.FieldType.object "java/lang/String"))) := wd hw 128 rfl
theorem pd_16 : parseMethodDescriptor "(II)Ljava/lang/String;" = some ⟨[.int, .int], (some (.object "java/lang/String"))⟩ := by decide +kernel
theorem W116 (hw : HW Z a0) : BF Z a0 (.declares ⟨"java/lang/String", "substring", "(II)Ljava/lang/String;"⟩) := wd hw 116 rfl
theorem W118 (hw : HW Z a0) : BF Z a0 (.selects "java/lang/String" ⟨"java/lang/String", "substring", "(II)Ljava/lang/String;"⟩ ⟨"java/lang/String", "substring", "(II)Ljava/lang/String;"⟩) := wd hw 118 rfl
theorem W117 (hw : HW Z a0) : BF Z a0 (.instanceMethod ⟨"java/lang/String", "substring", "(II)Ljava/lang/String;"⟩) := wd hw 117 rfl
theorem W119 (hw : HW Z a0) : BF Z a0 (.code ⟨"java/lang/String", "substring", "(II)Ljava/lang/String;"⟩ jdk_42_method_92_code (5 : Nat) (Option.some (Jvm.ClassFile.FieldType.object "java/lang/String"))) := wd hw 119 rfl
theorem W152 (hw : HW Z a0) : BF Z a0 (.fieldLink "com/example/quadrille/quadrille/rdf/BaseIri$Components" (7 : Nat) "com/example/quadrille/quadrille/rdf/BaseIri$Components" "scheme" "Ljava/lang/String;") := wd hw 152 rfl
theorem W153 (hw : HW Z a0) : BF Z a0 (.laysFinal "com/example/quadrille/quadrille/rdf/BaseIri$Components" "com/example/quadrille/quadrille/rdf/BaseIri$Components" "scheme" "Ljava/lang/String;") := wd hw 153 rfl
theorem W114 (hw : HW Z a0) : BF Z a0 (.instantiable "com/example/quadrille/quadrille/rdf/BaseIri$Components" (5 : Nat)) := wd hw 114 rfl
theorem W155 (hw : HW Z a0) : BF Z a0 (.laysFinal "com/example/quadrille/quadrille/rdf/BaseIri$Components" "com/example/quadrille/quadrille/rdf/BaseIri$Components" "authority" "Ljava/lang/String;") := wd hw 155 rfl
theorem W157 (hw : HW Z a0) : BF Z a0 (.laysFinal "com/example/quadrille/quadrille/rdf/BaseIri$Components" "com/example/quadrille/quadrille/rdf/BaseIri$Components" "path" "Ljava/lang/String;") := wd hw 157 rfl
theorem W159 (hw : HW Z a0) : BF Z a0 (.laysFinal "com/example/quadrille/quadrille/rdf/BaseIri$Components" "com/example/quadrille/quadrille/rdf/BaseIri$Components" "query" "Ljava/lang/String;") := wd hw 159 rfl
theorem W161 (hw : HW Z a0) : BF Z a0 (.laysFinal "com/example/quadrille/quadrille/rdf/BaseIri$Components" "com/example/quadrille/quadrille/rdf/BaseIri$Components" "fragment" "Ljava/lang/String;") := wd hw 161 rfl
theorem W154 (hw : HW Z a0) : BF Z a0 (.fieldLink "com/example/quadrille/quadrille/rdf/BaseIri$Components" (13 : Nat) "com/example/quadrille/quadrille/rdf/BaseIri$Components" "authority" "Ljava/lang/String;") := wd hw 154 rfl
theorem W158 (hw : HW Z a0) : BF Z a0 (.fieldLink "com/example/quadrille/quadrille/rdf/BaseIri$Components" (19 : Nat) "com/example/quadrille/quadrille/rdf/BaseIri$Components" "query" "Ljava/lang/String;") := wd hw 158 rfl
theorem pn_6f6e656e7473_1 : plainName "com/example/quadrille/quadrille/rdf/BaseIri$Components" = true := by first | (simp [plainName, overriddenIn]; done) | decide +kernel
theorem W171 (hw : HW Z a0) : BF Z a0 (.fieldLink "com/example/quadrille/quadrille/rdf/BaseIri" (13 : Nat) "com/example/quadrille/quadrille/rdf/BaseIri" "base" "Lcom/example/quadrille/quadrille/rdf/BaseIri$Components;") := wd hw 171 rfl
theorem pn_617365497269_0 : plainName "com/example/quadrille/quadrille/rdf/BaseIri" = true := by first | (simp [plainName, overriddenIn]; done) | decide +kernel
theorem W113 (hw : HW Z a0) : BF Z a0 (.classLink "com/example/quadrille/quadrille/rdf/BaseIri$Components" (8 : Nat) "com/example/quadrille/quadrille/rdf/BaseIri$Components") := wd hw 113 rfl
theorem W43 (hw : HW Z a0) : BF Z a0 (.initialized "com/example/quadrille/quadrille/rdf/BaseIri$Components") := wd hw 43 rfl
theorem W115 (hw : HW Z a0) : BF Z a0 (.methodLink "com/example/quadrille/quadrille/rdf/BaseIri$Components" (50 : Nat) ⟨"java/lang/String", "substring", "(II)Ljava/lang/String;"⟩) := wd hw 115 rfl
theorem pd_12 : parseMethodDescriptor "(I)Ljava/lang/String;" = some ⟨[.int], (some (.object "java/lang/String"))⟩ := by decide +kernel
theorem W381 (hw : HW Z a0) : BF Z a0 (.selects "java/lang/String" ⟨"java/lang/String", "substring", "(I)Ljava/lang/String;"⟩ ⟨"java/lang/String", "substring", "(I)Ljava/lang/String;"⟩) := wd hw 381 rfl
theorem W148 (hw : HW Z a0) : BF Z a0 (.methodLink "com/example/quadrille/quadrille/rdf/BaseIri$Components" (57 : Nat) ⟨"com/example/quadrille/quadrille/rdf/BaseIri$Components", "<init>", "(Ljava/lang/String;Ljava/lang/String;Ljava/lang/String;Ljava/lang/String;Ljava/lang/String;)V"⟩) := wd hw 148 rfl
theorem pd_38 : parseMethodDescriptor "(Ljava/lang/String;Ljava/lang/String;Ljava/lang/String;Ljava/lang/String;Ljava/lang/String;)V" = some ⟨[(.object "java/lang/String"), (.object "java/lang/String"), (.object "java/lang/String"), (.object "java/lang/String"), (.object "java/lang/String")], none⟩ := by decide +kernel
theorem W149 (hw : HW Z a0) : BF Z a0 (.instanceMethod ⟨"com/example/quadrille/quadrille/rdf/BaseIri$Components", "<init>", "(Ljava/lang/String;Ljava/lang/String;Ljava/lang/String;Ljava/lang/String;Ljava/lang/String;)V"⟩) := wd hw 149 rfl
theorem W150 (hw : HW Z a0) : BF Z a0 (.code ⟨"com/example/quadrille/quadrille/rdf/BaseIri$Components", "<init>", "(Ljava/lang/String;Ljava/lang/String;Ljava/lang/String;Ljava/lang/String;Ljava/lang/String;)V"⟩ prog_4_method_1_code (6 : Nat) (Option.none : Option Jvm.ClassFile.FieldType)) := wd hw 150 rfl
theorem W107 (hw : HW Z a0) : BF Z a0 (.stringLink "com/example/quadrille/quadrille/rdf/BaseIri$Components" (41 : Nat) "//") := wd hw 107 rfl
theorem W91 (hw : HW Z a0) : BF Z a0 (.methodLink "com/example/quadrille/quadrille/rdf/BaseIri$Components" (37 : Nat) ⟨"java/lang/String", "charAt", "(I)C"⟩) := wd hw 91 rfl
theorem pd_28492943 : parseMethodDescriptor "(I)C" = some ⟨[.int], (some .char)⟩ := by decide +kernel
theorem W92 (hw : HW Z a0) : BF Z a0 (.declares ⟨"java/lang/String", "charAt", "(I)C"⟩) := wd hw 92 rfl
theorem W94 (hw : HW Z a0) : BF Z a0 (.selects "java/lang/String" ⟨"java/lang/String", "charAt", "(I)C"⟩ ⟨"java/lang/String", "charAt", "(I)C"⟩) := wd hw 94 rfl
theorem W93 (hw : HW Z a0) : BF Z a0 (.instanceMethod ⟨"java/lang/String", "charAt", "(I)C"⟩) := wd hw 93 rfl
theorem W95 (hw : HW Z a0) : BF Z a0 (.code ⟨"java/lang/String", "charAt", "(I)C"⟩ jdk_42_method_56_code (2 : Nat) (Option.some Jvm.ClassFile.FieldType.char)) := wd hw 95 rfl
theorem W88 (hw : HW Z a0) : BF Z a0 (.stringLink "com/example/quadrille/quadrille/rdf/BaseIri$Components" (35 : Nat) ":/") := wd hw 88 rfl
theorem W45 (hw : HW Z a0) : BF Z a0 (.methodLink "com/example/quadrille/quadrille/rdf/BaseIri$Components" (25 : Nat) ⟨"java/lang/String", "indexOf", "(I)I"⟩) := wd hw 45 rfl
theorem pd_28492949 : parseMethodDescriptor "(I)I" = some ⟨[.int], (some .int)⟩ := by decide +kernel
theorem W46 (hw : HW Z a0) : BF Z a0 (.declares ⟨"java/lang/String", "indexOf", "(I)I"⟩) := wd hw 46 rfl
theorem W48 (hw : HW Z a0) : BF Z a0 (.selects "java/lang/String" ⟨"java/lang/String", "indexOf", "(I)I"⟩ ⟨"java/lang/String", "indexOf", "(I)I"⟩) := wd hw 48 rfl
theorem W47 (hw : HW Z a0) : BF Z a0 (.instanceMethod ⟨"java/lang/String", "indexOf", "(I)I"⟩) := wd hw 47 rfl
theorem W49 (hw : HW Z a0) : BF Z a0 (.code ⟨"java/lang/String", "indexOf", "(I)I"⟩ jdk_42_method_79_code (2 : Nat) (Option.some Jvm.ClassFile.FieldType.int)) := wd hw 49 rfl
theorem pd_28 : parseMethodDescriptor "(Ljava/lang/String;)Lcom/example/quadrille/quadrille/rdf/BaseIri$Components;" = some ⟨[(.object "java/lang/String")], (some (.object "com/example/quadrille/quadrille/rdf/BaseIri$Components"))⟩ := by decide +kernel
theorem W162 (hw : HW Z a0) : BF Z a0 (.fieldRef "com/example/quadrille/quadrille/rdf/BaseIri" (23 : Nat) "com/example/quadrille/quadrille/rdf/BaseIri$Components" "scheme" "Ljava/lang/String;") := wd hw 162 rfl
theorem W39 (hw : HW Z a0) : BF Z a0 (.initialized "com/example/quadrille/quadrille/rdf/BaseIri") := wd hw 39 rfl
theorem pd_37 : parseMethodDescriptor "(Ljava/lang/String;Lcom/example/quadrille/quadrille/rdf/BaseIri$Components;)V" = some ⟨[(.object "java/lang/String"), (.object "com/example/quadrille/quadrille/rdf/BaseIri$Components")], none⟩ := by decide +kernel
theorem W222 (hw : HW Z a0) : BF Z a0 (.fieldLink "java/lang/AbstractStringBuilder" (22 : Nat) "java/lang/AbstractStringBuilder" "coder" "B") := wd hw 222 rfl
theorem pn_75696c646572_3 : plainName "java/lang/AbstractStringBuilder" = true := by first | (simp [plainName, overriddenIn]; done) | decide +kernel
theorem pd_33 : parseMethodDescriptor "(Ljava/lang/String;)V" = some ⟨[(.object "java/lang/String")], none⟩ := by decide +kernel
theorem W240 (hw : HW Z a0) : BF Z a0 (.selects "java/lang/StringBuilder" ⟨"java/lang/AbstractStringBuilder", "ensureCapacityInternal", "(I)V"⟩ ⟨"java/lang/AbstractStringBuilder", "ensureCapacityInternal", "(I)V"⟩) := wd hw 240 rfl
theorem W238 (hw : HW Z a0) : BF Z a0 (.instanceMethod ⟨"java/lang/AbstractStringBuilder", "ensureCapacityInternal", "(I)V"⟩) := wd hw 238 rfl
theorem W216 (hw : HW Z a0) : BF Z a0 (.initialized "java/lang/AbstractStringBuilder") := wd hw 216 rfl
theorem W220 (hw : HW Z a0) : BF Z a0 (.fieldLink "java/lang/AbstractStringBuilder" (15 : Nat) "java/lang/AbstractStringBuilder" "value" "[B") := wd hw 220 rfl
theorem pd_285b4249422956 : parseMethodDescriptor "([BIB)V" = some ⟨[(.array .byte), .int, .byte], none⟩ := by decide +kernel
theorem W235 (hw : HW Z a0) : BF Z a0 (.fieldLink "java/lang/AbstractStringBuilder" (79 : Nat) "java/lang/AbstractStringBuilder" "count" "I") := wd hw 235 rfl
theorem pd_28492956 : parseMethodDescriptor "(I)V" = some ⟨[.int], none⟩ := by decide +kernel
theorem pd_22 : parseMethodDescriptor "(ILjava/lang/String;)V" = some ⟨[.int, (.object "java/lang/String")], none⟩ := by decide +kernel
theorem W207 (hw : HW Z a0) : BF Z a0 (.instantiable "java/lang/StringBuilder" (4 : Nat)) := wd hw 207 rfl
theorem W236 (hw : HW Z a0) : BF Z a0 (.lays "java/lang/StringBuilder" "java/lang/AbstractStringBuilder" "count" "I") := wd hw 236 rfl
theorem W223 (hw : HW Z a0) : BF Z a0 (.lays "java/lang/StringBuilder" "java/lang/AbstractStringBuilder" "coder" "B") := wd hw 223 rfl
theorem W221 (hw : HW Z a0) : BF Z a0 (.lays "java/lang/StringBuilder" "java/lang/AbstractStringBuilder" "value" "[B") := wd hw 221 rfl
theorem pd_30 : parseMethodDescriptor "(Ljava/lang/String;)Ljava/lang/AbstractStringBuilder;" = some ⟨[(.object "java/lang/String")], (some (.object "java/lang/AbstractStringBuilder"))⟩ := by decide +kernel
theorem pn_75696c646572_7 : plainName "java/lang/StringBuilder" = true := by first | (simp [plainName, overriddenIn]; done) | decide +kernel
theorem pd_28295b42 : parseMethodDescriptor "()[B" = some ⟨[], (some (.array .byte))⟩ := by decide +kernel
theorem W208 (hw : HW Z a0) : BF Z a0 (.initialized "java/lang/StringBuilder") := wd hw 208 rfl
theorem W271 (hw : HW Z a0) : BF Z a0 (.selects "java/lang/StringBuilder" ⟨"java/lang/AbstractStringBuilder", "isLatin1", "()Z"⟩ ⟨"java/lang/AbstractStringBuilder", "isLatin1", "()Z"⟩) := wd hw 271 rfl
theorem pd_24 : parseMethodDescriptor "(Ljava/lang/AbstractStringBuilder;Ljava/lang/Void;)V" = some ⟨[(.object "java/lang/AbstractStringBuilder"), (.object "java/lang/Void")], none⟩ := by decide +kernel
theorem pd_40 : parseMethodDescriptor "(Ljava/lang/StringBuilder;)V" = some ⟨[(.object "java/lang/StringBuilder")], none⟩ := by decide +kernel
theorem pd_2843295a : parseMethodDescriptor "(C)Z" = some ⟨[.char], (some .boolean)⟩ := by decide +kernel
theorem pd_7 : parseMethodDescriptor "(C)Ljava/lang/AbstractStringBuilder;" = some ⟨[.char], (some (.object "java/lang/AbstractStringBuilder"))⟩ := by decide +kernel
theorem pd_282956 : parseMethodDescriptor "()V" = some ⟨[], none⟩ := by decide +kernel
theorem W224 (hw : HW Z a0) : BF Z a0 (.methodLink "com/example/quadrille/quadrille/rdf/BaseIri$Components" (63 : Nat) ⟨"java/lang/StringBuilder", "append", "(Ljava/lang/String;)Ljava/lang/StringBuilder;"⟩) := wd hw 224 rfl
theorem pd_32 : parseMethodDescriptor "(Ljava/lang/String;)Ljava/lang/StringBuilder;" = some ⟨[(.object "java/lang/String")], (some (.object "java/lang/StringBuilder"))⟩ := by decide +kernel
theorem W225 (hw : HW Z a0) : BF Z a0 (.declares ⟨"java/lang/StringBuilder", "append", "(Ljava/lang/String;)Ljava/lang/StringBuilder;"⟩) := wd hw 225 rfl
theorem W227 (hw : HW Z a0) : BF Z a0 (.selects "java/lang/StringBuilder" ⟨"java/lang/StringBuilder", "append", "(Ljava/lang/String;)Ljava/lang/StringBuilder;"⟩ ⟨"java/lang/StringBuilder", "append", "(Ljava/lang/String;)Ljava/lang/StringBuilder;"⟩) := wd hw 227 rfl
theorem W226 (hw : HW Z a0) : BF Z a0 (.instanceMethod ⟨"java/lang/StringBuilder", "append", "(Ljava/lang/String;)Ljava/lang/StringBuilder;"⟩) := wd hw 226 rfl
theorem W228 (hw : HW Z a0) : BF Z a0 (.code ⟨"java/lang/StringBuilder", "append", "(Ljava/lang/String;)Ljava/lang/StringBuilder;"⟩ jdk_67_method_7_code (2 : Nat) (Option.some (Jvm.ClassFile.FieldType.object "java/lang/StringBuilder"))) := wd hw 228 rfl
theorem pd_8 : parseMethodDescriptor "(C)Ljava/lang/StringBuilder;" = some ⟨[.char], (some (.object "java/lang/StringBuilder"))⟩ := by decide +kernel
theorem W262 (hw : HW Z a0) : BF Z a0 (.selects "java/lang/StringBuilder" ⟨"java/lang/StringBuilder", "append", "(C)Ljava/lang/StringBuilder;"⟩ ⟨"java/lang/StringBuilder", "append", "(C)Ljava/lang/StringBuilder;"⟩) := wd hw 262 rfl
theorem pd_3 : parseMethodDescriptor "()Ljava/lang/String;" = some ⟨[], (some (.object "java/lang/String"))⟩ := by decide +kernel
theorem W279 (hw : HW Z a0) : BF Z a0 (.selects "java/lang/StringBuilder" ⟨"java/lang/StringBuilder", "toString", "()Ljava/lang/String;"⟩ ⟨"java/lang/StringBuilder", "toString", "()Ljava/lang/String;"⟩) := wd hw 279 rfl
theorem pd_36 : parseMethodDescriptor "(Ljava/lang/String;II)V" = some ⟨[(.object "java/lang/String"), .int, .int], none⟩ := by decide +kernel
theorem pd_25 : parseMethodDescriptor "(Ljava/lang/CharSequence;II)Ljava/lang/AbstractStringBuilder;" = some ⟨[(.object "java/lang/CharSequence"), .int, .int], (some (.object "java/lang/AbstractStringBuilder"))⟩ := by decide +kernel
theorem W319 (hw : HW Z a0) : BF Z a0 (.stringLink "com/example/quadrille/quadrille/rdf/BaseIri" (113 : Nat) "../") := wd hw 319 rfl
theorem W320 (hw : HW Z a0) : BF Z a0 (.methodLink "com/example/quadrille/quadrille/rdf/BaseIri" (115 : Nat) ⟨"java/lang/String", "startsWith", "(Ljava/lang/String;I)Z"⟩) := wd hw 320 rfl
theorem W321 (hw : HW Z a0) : BF Z a0 (.stringLink "com/example/quadrille/quadrille/rdf/BaseIri" (118 : Nat) "./") := wd hw 321 rfl
theorem W322 (hw : HW Z a0) : BF Z a0 (.stringLink "com/example/quadrille/quadrille/rdf/BaseIri" (120 : Nat) "/./") := wd hw 322 rfl
theorem W323 (hw : HW Z a0) : BF Z a0 (.stringLink "com/example/quadrille/quadrille/rdf/BaseIri" (122 : Nat) "/.") := wd hw 323 rfl
theorem W324 (hw : HW Z a0) : BF Z a0 (.stringLink "com/example/quadrille/quadrille/rdf/BaseIri" (128 : Nat) "/../") := wd hw 324 rfl
theorem W325 (hw : HW Z a0) : BF Z a0 (.stringLink "com/example/quadrille/quadrille/rdf/BaseIri" (134 : Nat) "/..") := wd hw 325 rfl
theorem W326 (hw : HW Z a0) : BF Z a0 (.stringLink "com/example/quadrille/quadrille/rdf/BaseIri" (136 : Nat) ".") := wd hw 326 rfl
theorem W327 (hw : HW Z a0) : BF Z a0 (.stringLink "com/example/quadrille/quadrille/rdf/BaseIri" (138 : Nat) "..") := wd hw 327 rfl
theorem pd_26 : parseMethodDescriptor "(Ljava/lang/CharSequence;II)Ljava/lang/StringBuilder;" = some ⟨[(.object "java/lang/CharSequence"), .int, .int], (some (.object "java/lang/StringBuilder"))⟩ := by decide +kernel
theorem W183 (hw : HW Z a0) : BF Z a0 (.fieldRef "com/example/quadrille/quadrille/rdf/BaseIri" (42 : Nat) "com/example/quadrille/quadrille/rdf/BaseIri$Components" "authority" "Ljava/lang/String;") := wd hw 183 rfl
theorem W184 (hw : HW Z a0) : BF Z a0 (.fieldRef "com/example/quadrille/quadrille/rdf/BaseIri" (45 : Nat) "com/example/quadrille/quadrille/rdf/BaseIri$Components" "path" "Ljava/lang/String;") := wd hw 184 rfl
theorem pd_23 : parseMethodDescriptor "(Lcom/example/quadrille/quadrille/rdf/BaseIri$Components;)Lcom/example/quadrille/quadrille/rdf/BaseIri$Components;" = some ⟨[(.object "com/example/quadrille/quadrille/rdf/BaseIri$Components")], (some (.object "com/example/quadrille/quadrille/rdf/BaseIri$Components"))⟩ := by decide +kernel
theorem W177 (hw : HW Z a0) : BF Z a0 (.selects "com/example/quadrille/quadrille/rdf/BaseIri" ⟨"com/example/quadrille/quadrille/rdf/BaseIri", "resolve", "(Ljava/lang/String;)Ljava/lang/String;"⟩ ⟨"com/example/quadrille/quadrille/rdf/BaseIri", "resolve", "(Ljava/lang/String;)Ljava/lang/String;"⟩) := wd hw 177 rfl
theorem W176 (hw : HW Z a0) : BF Z a0 (.instanceMethod ⟨"com/example/quadrille/quadrille/rdf/BaseIri", "resolve", "(Ljava/lang/String;)Ljava/lang/String;"⟩) := wd hw 176 rfl
theorem W194 (hw : HW Z a0) : BF Z a0 (.stringLink "com/example/quadrille/quadrille/rdf/BaseIri" (48 : Nat) "//") := wd hw 194 rfl
theorem pd_34 : parseMethodDescriptor "(Ljava/lang/String;)Z" = some ⟨[(.object "java/lang/String")], (some .boolean)⟩ := by decide +kernel
theorem W198 (hw : HW Z a0) : BF Z a0 (.selects "java/lang/String" ⟨"java/lang/String", "startsWith", "(Ljava/lang/String;)Z"⟩ ⟨"java/lang/String", "startsWith", "(Ljava/lang/String;)Z"⟩) := wd hw 198 rfl
theorem W201 (hw : HW Z a0) : BF Z a0 (.methodLink "com/example/quadrille/quadrille/rdf/BaseIri" (67 : Nat) ⟨"com/example/quadrille/quadrille/rdf/BaseIri$Components", "toString", "()Ljava/lang/String;"⟩) := wd hw 201 rfl
theorem W202 (hw : HW Z a0) : BF Z a0 (.declares ⟨"com/example/quadrille/quadrille/rdf/BaseIri$Components", "toString", "()Ljava/lang/String;"⟩) := wd hw 202 rfl
theorem W204 (hw : HW Z a0) : BF Z a0 (.selects "com/example/quadrille/quadrille/rdf/BaseIri$Components" ⟨"com/example/quadrille/quadrille/rdf/BaseIri$Components", "toString", "()Ljava/lang/String;"⟩ ⟨"com/example/quadrille/quadrille/rdf/BaseIri$Components", "toString", "()Ljava/lang/String;"⟩) := wd hw 204 rfl
theorem W203 (hw : HW Z a0) : BF Z a0 (.instanceMethod ⟨"com/example/quadrille/quadrille/rdf/BaseIri$Components", "toString", "()Ljava/lang/String;"⟩) := wd hw 203 rfl
theorem W205 (hw : HW Z a0) : BF Z a0 (.code ⟨"com/example/quadrille/quadrille/rdf/BaseIri$Components", "toString", "()Ljava/lang/String;"⟩ prog_4_method_3_code (2 : Nat) (Option.some (Jvm.ClassFile.FieldType.object "java/lang/String"))) := wd hw 205 rfl
theorem W310 (hw : HW Z a0) : BF Z a0 (.stringLink "com/example/quadrille/quadrille/rdf/BaseIri" (81 : Nat) "/") := wd hw 310 rfl
theorem pd_31 : parseMethodDescriptor "(Ljava/lang/String;)Ljava/lang/String;" = some ⟨[(.object "java/lang/String")], (some (.object "java/lang/String"))⟩ := by decide +kernel
theorem pn_50696e4c6177_2 : plainName "com/example/quadrille/quadrille/rdf/BaseIriOfPinLaw" = true := by first | (simp [plainName, overriddenIn]; done) | decide +kernel
theorem W377 (hw : HW Z a0) : BF Z a0 (.methodLink "com/example/quadrille/quadrille/rdf/BaseIriOfPinLaw" (7 : Nat) ⟨"java/lang/String", "charAt", "(I)C"⟩) := wd hw 377 rfl
theorem pd_39 : parseMethodDescriptor "(Ljava/lang/String;[CI)Z" = some ⟨[(.object "java/lang/String"), (.array .char), .int], (some .boolean)⟩ := by decide +kernel
theorem W3 (hw : HW Z a0) : BF Z a0 (.initialized "com/example/quadrille/quadrille/rdf/BaseIriOfPinLaw") := wd hw 3 rfl
theorem pd_285b4343492949 : parseMethodDescriptor "([CCI)I" = some ⟨[(.array .char), .char, .int], (some .int)⟩ := by decide +kernel
theorem pd_285b432956 : parseMethodDescriptor "([C)V" = some ⟨[(.array .char)], none⟩ := by decide +kernel
theorem pd_29 : parseMethodDescriptor "(Ljava/lang/String;)Lcom/example/quadrille/quadrille/rdf/BaseIri;" = some ⟨[(.object "java/lang/String")], (some (.object "com/example/quadrille/quadrille/rdf/BaseIri"))⟩ := by decide +kernel
theorem W173 (hw : HW Z a0) : BF Z a0 (.stringLink "com/example/quadrille/quadrille/rdf/BaseIriOfPinLaw" (31 : Nat) "") := wd hw 173 rfl
theorem W303 (hw : HW Z a0) : BF Z a0 (.stringLink "com/example/quadrille/quadrille/rdf/BaseIriOfPinLaw" (37 : Nat) "?") := wd hw 303 rfl
theorem W305 (hw : HW Z a0) : BF Z a0 (.stringLink "com/example/quadrille/quadrille/rdf/BaseIriOfPinLaw" (39 : Nat) "/y") := wd hw 305 rfl
theorem W371 (hw : HW Z a0) : BF Z a0 (.stringLink "com/example/quadrille/quadrille/rdf/BaseIriOfPinLaw" (41 : Nat) "//x") := wd hw 371 rfl
theorem W346 (hw : HW Z a0) : BF Z a0 (.laysStatic "jdk/internal/util/Preconditions" "IOOBE_FORMATTER" "Ljava/util/function/BiFunction;") := wd hw 346 rfl
theorem Y0 : DD jdk_42_method_152_code [(0, .getstatic 38, 3), (3, .ifCond .eq 10, 3), (6, .aload_n 0, 1), (7, .getfield 15, 3), (10, .goto 4, 3), (14, .ireturn, 1)] := dd (by decide +kernel)
theorem Y1 : DD jdk_42_method_154_code [(0, .getstatic 38, 3), (3, .ifCond .eq 14, 3), (6, .aload_n 0, 1), (7, .getfield 15, 3), (10, .ifCond .ne 7, 3), (13, .iconst 1, 1), (14, .goto 4, 3), (18, .ireturn, 1)] := dd (by decide +kernel)
theorem Y2 : DD jdk_42_method_54_code [(0, .aload_n 0, 1), (1, .getfield 9, 3), (4, .arraylength, 1), (5, .aload_n 0, 1), (6, .invokevirtual 335, 3), (9, .ishr, 1), (10, .ireturn, 1)] := dd (by decide +kernel)
theorem Y3 : DD jdk_29_method_69_code [(0, .iload_n 0, 1), (1, .iload_n 1, 1), (2, .if_icmp .gt 7, 3), (5, .iload_n 0, 1), (6, .goto 4, 3), (9, .iload_n 1, 1), (10, .ireturn, 1)] := dd (by decide +kernel)
theorem Y4 : DD jdk_29_method_65_code [(0, .iload_n 0, 1), (1, .iload_n 1, 1), (2, .if_icmp .lt 7, 3), (5, .iload_n 0, 1), (6, .goto 4, 3), (9, .iload_n 1, 1), (10, .ireturn, 1)] := dd (by decide +kernel)
theorem Y5 : DD jdk_65_method_131_code [(0, .iload_n 1, 1), (1, .iload_n 0, 1), (2, .if_icmp .ge 35, 3), (37, .return_, 1)] := dd (by decide +kernel)
theorem Y6 : DD jdk_41_method_11_code [(0, .iload_n 0, 1), (1, .ifCond .lt 8, 3), (4, .iload_n 0, 1), (5, .iload_n 1, 1), (6, .if_icmp .lt 10, 3), (16, .iload_n 0, 1), (17, .ireturn, 1)] := dd (by decide +kernel)
theorem Y7 : DD jdk_42_method_155_code [(0, .iload_n 0, 1), (1, .iload_n 1, 1), (2, .getstatic 1053, 3), (5, .invokestatic 1059, 3), (8, .pop, 1), (9, .return_, 1)] := dd (by decide +kernel)
theorem Y8 : DD jdk_43_method_2_code [(0, .iload_n 1, 1), (1, .aload_n 0, 1), (2, .arraylength, 1), (3, .invokestatic 9, 3), (6, .aload_n 0, 1), (7, .iload_n 1, 1), (8, .baload, 1), (9, .sipush 255, 3), (12, .iand, 1), (13, .i2c, 1), (14, .ireturn, 1)] := dd (by decide +kernel)
theorem Y9 : DD jdk_42_method_56_code [(0, .aload_n 0, 1), (1, .invokevirtual 492, 3), (4, .ifCond .eq 12, 3), (7, .aload_n 0, 1), (8, .getfield 9, 3), (11, .iload_n 1, 1), (12, .invokestatic 495, 3), (15, .ireturn, 1)] := dd (by decide +kernel)
theorem Y10 : DD jdk_42_method_55_code [(0, .aload_n 0, 1), (1, .getfield 9, 3), (4, .arraylength, 1), (5, .ifCond .ne 7, 3), (8, .iconst 1, 1), (9, .goto 4, 3), (12, .iconst 0, 1), (13, .ireturn, 1)] := dd (by decide +kernel)
theorem Y11 : DD jdk_43_method_4_code [(0, .iload_n 0, 1), (1, .ifCond .lt 14, 3), (4, .iload_n 0, 1), (5, .sipush 255, 3), (8, .if_icmp .gt 7, 3), (11, .iconst 1, 1), (12, .goto 4, 3), (16, .ireturn, 1)] := dd (by decide +kernel)
theorem Y12 : DD jdk_43_method_23_code [(0, .iload_n 1, 1), (1, .i2b, 1), (2, .istore 4, 2), (4, .iload_n 2, 1), (5, .istore 5, 2), (7, .iload 5, 2), (9, .iload_n 3, 1), (10, .if_icmp .ge 21, 3), (13, .aload_n 0, 1), (14, .iload 5, 2), (16, .baload, 1), (17, .iload 4, 2), (19, .if_icmp .ne 6, 3), (22, .iload 5, 2), (24, .ireturn, 1), (25, .iinc 5 1, 3), (28, .goto (-21), 3), (31, .iconst (-1), 1), (32, .ireturn, 1)] := dd (by decide +kernel)
theorem Y13 : DD jdk_43_method_22_code [(0, .iload_n 1, 1), (1, .invokestatic 88, 3), (4, .ifCond .ne 5, 3), (9, .iload_n 2, 1), (10, .iconst 0, 1), (11, .invokestatic 92, 3), (14, .istore_n 2, 1), (15, .iload_n 3, 1), (16, .aload_n 0, 1), (17, .arraylength, 1), (18, .invokestatic 38, 3), (21, .istore_n 3, 1), (22, .iload_n 2, 1), (23, .iload_n 3, 1), (24, .if_icmp .lt 5, 3), (27, .iconst (-1), 1), (28, .ireturn, 1), (29, .aload_n 0, 1), (30, .iload_n 1, 1), (31, .iload_n 2, 1), (32, .iload_n 3, 1), (33, .invokestatic 95, 3), (36, .ireturn, 1)] := dd (by decide +kernel)
theorem Y14 : DD jdk_42_method_80_code [(0, .aload_n 0, 1), (1, .invokevirtual 492, 3), (4, .ifCond .eq 19, 3), (7, .aload_n 0, 1), (8, .getfield 9, 3), (11, .iload_n 1, 1), (12, .iload_n 2, 1), (13, .aload_n 0, 1), (14, .invokevirtual 505, 3), (17, .invokestatic 637, 3), (20, .goto 16, 3), (36, .ireturn, 1)] := dd (by decide +kernel)
theorem Y15 : DD jdk_42_method_79_code [(0, .aload_n 0, 1), (1, .iload_n 1, 1), (2, .iconst 0, 1), (3, .invokevirtual 633, 3), (6, .ireturn, 1)] := dd (by decide +kernel)
theorem Y16 : DD jdk_48_method_14_code [(0, .iconst 0, 1), (1, .istore 5, 2), (3, .iload 4, 2), (5, .bipush 7, 2), (7, .if_icmp .le 63, 3), (70, .iload 5, 2), (72, .iload 4, 2), (74, .if_icmp .ge 27, 3), (77, .aload_n 0, 1), (78, .iload_n 1, 1), (79, .iload 5, 2), (81, .iadd, 1), (82, .baload, 1), (83, .aload_n 2, 1), (84, .iload_n 3, 1), (85, .iload 5, 2), (87, .iadd, 1), (88, .baload, 1), (89, .if_icmp .eq 6, 3), (92, .iload 5, 2), (94, .ireturn, 1), (95, .iinc 5 1, 3), (98, .goto (-28), 3), (101, .iconst (-1), 1), (102, .ireturn, 1)] := dd (by decide +kernel)
theorem Y17 : DD jdk_42_method_75_code [(0, .iload_n 2, 1), (1, .ifCond .lt 16, 3), (4, .iload_n 2, 1), (5, .aload_n 0, 1), (6, .invokevirtual 505, 3), (9, .aload_n 1, 1), (10, .invokevirtual 505, 3), (13, .isub, 1), (14, .if_icmp .le 5, 3), (17, .iconst 0, 1), (18, .ireturn, 1), (19, .aload_n 0, 1), (20, .getfield 9, 3), (23, .astore_n 3, 1), (24, .aload_n 1, 1), (25, .getfield 9, 3), (28, .astore 4, 2), (30, .iconst 0, 1), (31, .istore 5, 2), (33, .aload 4, 2), (35, .arraylength, 1), (36, .istore 6, 2), (38, .aload_n 0, 1), (39, .invokevirtual 335, 3), (42, .istore 7, 2), (44, .iload 7, 2), (46, .aload_n 1, 1), (47, .invokevirtual 335, 3), (50, .if_icmp .ne 32, 3), (53, .iload 7, 2), (55, .iconst 1, 1), (56, .if_icmp .ne 7, 3), (63, .aload_n 3, 1), (64, .iload_n 2, 1), (65, .aload 4, 2), (67, .iconst 0, 1), (68, .iload 6, 2), (70, .invokestatic 607, 3), (73, .ifCond .ge 7, 3), (76, .iconst 1, 1), (77, .goto 4, 3), (80, .iconst 0, 1), (81, .ireturn, 1)] := dd (by decide +kernel)
theorem Y18 : DD jdk_42_method_76_code [(0, .aload_n 0, 1), (1, .aload_n 1, 1), (2, .iconst 0, 1), (3, .invokevirtual 624, 3), (6, .ireturn, 1)] := dd (by decide +kernel)
theorem Y19 : DD jdk_41_method_12_code [(0, .iload_n 0, 1), (1, .ifCond .lt 13, 3), (4, .iload_n 0, 1), (5, .iload_n 1, 1), (6, .if_icmp .gt 8, 3), (9, .iload_n 1, 1), (10, .iload_n 2, 1), (11, .if_icmp .le 11, 3), (22, .iload_n 0, 1), (23, .ireturn, 1)] := dd (by decide +kernel)
theorem Y20 : DD jdk_42_method_158_code [(0, .iload_n 0, 1), (1, .iload_n 1, 1), (2, .iload_n 2, 1), (3, .getstatic 1053, 3), (6, .invokestatic 1062, 3), (9, .pop, 1), (10, .return_, 1)] := dd (by decide +kernel)
theorem Y21 : DD jdk_65_method_133_code [(0, .iload_n 1, 1), (1, .iload_n 2, 1), (2, .invokestatic 343, 3), (5, .iload_n 2, 1), (6, .iload_n 1, 1), (7, .isub, 1), (8, .istore_n 3, 1), (9, .iload_n 3, 1), (10, .newarray .byte, 2), (12, .astore 4, 2), (14, .aload_n 0, 1), (15, .iload_n 1, 1), (16, .aload 4, 2), (18, .iconst 0, 1), (19, .aload_n 0, 1), (20, .arraylength, 1), (21, .iload_n 1, 1), (22, .isub, 1), (23, .iload_n 3, 1), (24, .invokestatic 304, 3), (27, .invokestatic 150, 3), (30, .aload 4, 2), (32, .areturn, 1)] := dd (by decide +kernel)
theorem Y22 : DD jdk_65_method_132_code [(0, .iload_n 1, 1), (1, .ifCond .ne 9, 3), (4, .iload_n 2, 1), (5, .aload_n 0, 1), (6, .arraylength, 1), (7, .if_icmp .eq 10, 3), (10, .aload_n 0, 1), (11, .iload_n 1, 1), (12, .iload_n 2, 1), (13, .invokestatic 339, 3), (16, .areturn, 1), (17, .aload_n 0, 1), (18, .invokevirtual 310, 3), (21, .checkcast 311, 3), (24, .areturn, 1)] := dd (by decide +kernel)
theorem Y23 : DD jdk_42_method_151_code [(0, .aload_n 0, 1), (1, .invokespecial 1, 3), (4, .aload_n 0, 1), (5, .aload_n 1, 1), (6, .putfield 9, 3), (9, .aload_n 0, 1), (10, .iload_n 2, 1), (11, .putfield 15, 3), (14, .return_, 1)] := dd (by decide +kernel)
theorem Y24 : DD jdk_43_method_47_code [(0, .iload_n 2, 1), (1, .ifCond .ne 6, 3), (4, .ldc 151, 2), (6, .areturn, 1), (7, .new 1, 3), (10, .dup, 1), (11, .aload_n 0, 1), (12, .iload_n 1, 1), (13, .iload_n 1, 1), (14, .iload_n 2, 1), (15, .iadd, 1), (16, .invokestatic 232, 3), (19, .iconst 0, 1), (20, .invokespecial 112, 3), (23, .areturn, 1)] := dd (by decide +kernel)
theorem Y25 : DD jdk_42_method_92_code [(0, .aload_n 0, 1), (1, .invokevirtual 505, 3), (4, .istore_n 3, 1), (5, .iload_n 1, 1), (6, .iload_n 2, 1), (7, .iload_n 3, 1), (8, .invokestatic 521, 3), (11, .iload_n 1, 1), (12, .ifCond .ne 10, 3), (15, .iload_n 2, 1), (16, .iload_n 3, 1), (17, .if_icmp .ne 5, 3), (20, .aload_n 0, 1), (21, .areturn, 1), (22, .iload_n 2, 1), (23, .iload_n 1, 1), (24, .isub, 1), (25, .istore 4, 2), (27, .aload_n 0, 1), (28, .invokevirtual 492, 3), (31, .ifCond .eq 16, 3), (34, .aload_n 0, 1), (35, .getfield 9, 3), (38, .iload_n 1, 1), (39, .iload 4, 2), (41, .invokestatic 685, 3), (44, .goto 13, 3), (57, .areturn, 1)] := dd (by decide +kernel)
theorem Y26 : DD jdk_42_method_91_code [(0, .aload_n 0, 1), (1, .iload_n 1, 1), (2, .aload_n 0, 1), (3, .invokevirtual 505, 3), (6, .invokevirtual 681, 3), (9, .areturn, 1)] := dd (by decide +kernel)
theorem Y27 : DD prog_4_method_1_code [(0, .aload_n 0, 1), (1, .invokespecial 1, 3), (4, .aload_n 0, 1), (5, .aload_n 1, 1), (6, .putfield 7, 3), (9, .aload_n 0, 1), (10, .aload_n 2, 1), (11, .putfield 13, 3), (14, .aload_n 0, 1), (15, .aload_n 3, 1), (16, .putfield 16, 3), (19, .aload_n 0, 1), (20, .aload 4, 2), (22, .putfield 19, 3), (25, .aload_n 0, 1), (26, .aload 5, 2), (28, .putfield 22, 3), (31, .return_, 1)] := dd (by decide +kernel)
theorem Y28 : DD prog_3_method_1_code [(0, .aload_n 0, 1), (1, .invokespecial 1, 3), (4, .aload_n 0, 1), (5, .aload_n 1, 1), (6, .putfield 7, 3), (9, .aload_n 0, 1), (10, .aload_n 2, 1), (11, .putfield 13, 3), (14, .return_, 1)] := dd (by decide +kernel)
theorem Y29 : DD prog_4_method_2_code [(0, .aload_n 0, 1), (1, .bipush 35, 2), (3, .invokevirtual 25, 3), (6, .istore_n 1, 1), (7, .iload_n 1, 1), (8, .ifCond .ge 10, 3), (11, .aload_n 0, 1), (12, .invokevirtual 31, 3), (15, .goto 4, 3), (18, .iload_n 1, 1), (19, .istore_n 2, 1), (20, .aload_n 0, 1), (21, .bipush 63, 2), (23, .invokevirtual 25, 3), (26, .istore_n 3, 1), (27, .iload_n 3, 1), (28, .ifCond .lt 12, 3), (31, .iload_n 3, 1), (32, .iload_n 2, 1), (33, .if_icmp .ge 7, 3), (36, .iload_n 3, 1), (37, .goto 4, 3), (40, .iload_n 2, 1), (41, .istore 4, 2), (43, .iconst 0, 1), (44, .istore 5, 2), (46, .iload 5, 2), (48, .iload 4, 2), (50, .if_icmp .ge 23, 3), (53, .ldc 35, 2), (55, .aload_n 0, 1), (56, .iload 5, 2), (58, .invokevirtual 37, 3), (61, .invokevirtual 25, 3), (64, .ifCond .ge 9, 3), (67, .iinc 5 1, 3), (70, .goto (-24), 3), (73, .iload 5, 2), (75, .ifCond .le 25, 3), (78, .iload 5, 2), (80, .iload 4, 2), (82, .if_icmp .ge 18, 3), (85, .aload_n 0, 1), (86, .iload 5, 2), (88, .invokevirtual 37, 3), (91, .bipush 58, 2), (93, .if_icmp .ne 7, 3), (96, .iconst 1, 1), (97, .goto 4, 3), (100, .iconst 0, 1), (101, .istore 6, 2), (103, .iload 6, 2), (105, .ifCond .eq 10, 3), (108, .iload 5, 2), (110, .iconst 1, 1), (111, .iadd, 1), (112, .goto 4, 3), (115, .iconst 0, 1), (116, .istore 7, 2), (118, .aload_n 0, 1), (119, .ldc 41, 2), (121, .iload 7, 2), (123, .invokevirtual 43, 3), (126, .ifCond .eq 51, 3), (129, .aload_n 0, 1), (130, .bipush 47, 2), (132, .iload 7, 2), (134, .iconst 2, 1), (135, .iadd, 1), (136, .invokevirtual 47, 3), (139, .istore 10, 2), (141, .iload 10, 2), (143, .ifCond .lt 15, 3), (146, .iload 10, 2), (148, .iload 4, 2), (150, .if_icmp .ge 8, 3), (153, .iload 10, 2), (155, .goto 5, 3), (158, .iload 4, 2), (160, .istore 9, 2), (162, .aload_n 0, 1), (163, .iload 7, 2), (165, .iconst 2, 1), (166, .iadd, 1), (167, .iload 9, 2), (169, .invokevirtual 50, 3), (172, .astore 8, 2), (174, .goto 10, 3), (177, .iload 7, 2), (179, .istore 9, 2), (181, .aconst_null, 1), (182, .astore 8, 2), (184, .new 8, 3), (187, .dup, 1), (188, .iload 6, 2), (190, .ifCond .eq 13, 3), (193, .aload_n 0, 1), (194, .iconst 0, 1), (195, .iload 5, 2), (197, .invokevirtual 50, 3), (200, .goto 4, 3), (203, .aconst_null, 1), (204, .aload 8, 2), (206, .aload_n 0, 1), (207, .iload 9, 2), (209, .iload 4, 2), (211, .invokevirtual 50, 3), (214, .iload 4, 2), (216, .iload_n 2, 1), (217, .if_icmp .ge 15, 3), (220, .aload_n 0, 1), (221, .iload 4, 2), (223, .iconst 1, 1), (224, .iadd, 1), (225, .iload_n 2, 1), (226, .invokevirtual 50, 3), (229, .goto 4, 3), (232, .aconst_null, 1), (233, .iload_n 1, 1), (234, .ifCond .lt 13, 3), (237, .aload_n 0, 1), (238, .iload_n 1, 1), (239, .iconst 1, 1), (240, .iadd, 1), (241, .invokevirtual 54, 3), (244, .goto 4, 3), (247, .aconst_null, 1), (248, .invokespecial 57, 3), (251, .areturn, 1)] := dd (by decide +kernel)
theorem Y30 : DD prog_3_method_2_code [(0, .aload_n 0, 1), (1, .invokestatic 17, 3), (4, .astore_n 1, 1), (5, .aload_n 1, 1), (6, .getfield 23, 3), (9, .ifnonnull 17, 3), (26, .new 8, 3), (29, .dup, 1), (30, .aload_n 0, 1), (31, .aload_n 1, 1), (32, .invokespecial 35, 3), (35, .areturn, 1)] := dd (by decide +kernel)
theorem Y31 : DD jdk_68_method_71_code [(0, .getstatic 18, 3), (3, .ifCond .eq 18, 3), (6, .aload_n 0, 1), (7, .getfield 22, 3), (10, .aload_n 1, 1), (11, .invokevirtual 40, 3), (14, .if_icmp .eq 7, 3), (21, .return_, 1)] := dd (by decide +kernel)
theorem Y32 : DD jdk_42_method_147_code [(0, .aload_n 0, 1), (1, .invokevirtual 335, 3), (4, .iload_n 3, 1), (5, .if_icmp .ne 23, 3), (8, .aload_n 0, 1), (9, .getfield 9, 3), (12, .iconst 0, 1), (13, .aload_n 1, 1), (14, .iload_n 2, 1), (15, .iload_n 3, 1), (16, .ishl, 1), (17, .aload_n 0, 1), (18, .getfield 9, 3), (21, .arraylength, 1), (22, .invokestatic 212, 3), (25, .goto 18, 3), (43, .return_, 1)] := dd (by decide +kernel)
theorem Y33 : DD jdk_68_method_73_code [(0, .aload_n 0, 1), (1, .aload_n 2, 1), (2, .invokevirtual 397, 3), (5, .aload_n 2, 1), (6, .aload_n 0, 1), (7, .getfield 15, 3), (10, .iload_n 1, 1), (11, .aload_n 0, 1), (12, .getfield 22, 3), (15, .invokevirtual 399, 3), (18, .return_, 1)] := dd (by decide +kernel)
theorem Y34 : DD jdk_68_method_9_code [(0, .aload_n 0, 1), (1, .getfield 15, 3), (4, .arraylength, 1), (5, .aload_n 0, 1), (6, .getfield 22, 3), (9, .ishr, 1), (10, .istore_n 2, 1), (11, .iload_n 1, 1), (12, .iload_n 2, 1), (13, .isub, 1), (14, .ifCond .le 24, 3), (38, .return_, 1)] := dd (by decide +kernel)
theorem Y35 : DD jdk_68_method_22_code [(0, .aload_n 1, 1), (1, .ifnonnull 8, 3), (9, .aload_n 1, 1), (10, .invokevirtual 32, 3), (13, .istore_n 2, 1), (14, .aload_n 0, 1), (15, .aload_n 0, 1), (16, .getfield 79, 3), (19, .iload_n 2, 1), (20, .iadd, 1), (21, .invokevirtual 100, 3), (24, .aload_n 0, 1), (25, .aload_n 0, 1), (26, .getfield 79, 3), (29, .aload_n 1, 1), (30, .invokevirtual 208, 3), (33, .aload_n 0, 1), (34, .dup, 1), (35, .getfield 79, 3), (38, .iload_n 2, 1), (39, .iadd, 1), (40, .putfield 79, 3), (43, .aload_n 0, 1), (44, .areturn, 1)] := dd (by decide +kernel)
theorem Y36 : DD jdk_67_method_7_code [(0, .aload_n 0, 1), (1, .aload_n 1, 1), (2, .invokespecial 29, 3), (5, .pop, 1), (6, .aload_n 0, 1), (7, .areturn, 1)] := dd (by decide +kernel)
theorem Y37 : DD jdk_68_method_2_code [(0, .aload_n 0, 1), (1, .invokespecial 3, 3), (4, .getstatic 18, 3), (7, .ifCond .eq 18, 3), (10, .aload_n 0, 1), (11, .iload_n 1, 1), (12, .newarray .byte, 2), (14, .putfield 15, 3), (17, .aload_n 0, 1), (18, .iconst 0, 1), (19, .putfield 22, 3), (22, .goto 16, 3), (38, .return_, 1)] := dd (by decide +kernel)
theorem Y38 : DD jdk_67_method_1_code [(0, .aload_n 0, 1), (1, .bipush 16, 2), (3, .invokespecial 1, 3), (6, .return_, 1)] := dd (by decide +kernel)
theorem Y39 : DD jdk_68_method_64_code [(0, .aload_n 0, 1), (1, .getfield 15, 3), (4, .areturn, 1)] := dd (by decide +kernel)
theorem Y40 : DD jdk_68_method_6_code [(0, .aload_n 0, 1), (1, .getfield 79, 3), (4, .ireturn, 1)] := dd (by decide +kernel)
theorem Y41 : DD jdk_67_method_93_code [(0, .aload_n 0, 1), (1, .invokespecial 343, 3), (4, .ireturn, 1)] := dd (by decide +kernel)
theorem Y42 : DD jdk_68_method_68_code [(0, .getstatic 18, 3), (3, .ifCond .eq 14, 3), (6, .aload_n 0, 1), (7, .getfield 22, 3), (10, .ifCond .ne 7, 3), (13, .iconst 1, 1), (14, .goto 4, 3), (18, .ireturn, 1)] := dd (by decide +kernel)
theorem Y43 : DD jdk_42_method_150_code [(0, .aload_n 0, 1), (1, .invokespecial 1, 3), (4, .aload_n 1, 1), (5, .invokevirtual 552, 3), (8, .astore_n 3, 1), (9, .aload_n 1, 1), (10, .invokevirtual 549, 3), (13, .istore 4, 2), (15, .aload_n 1, 1), (16, .invokevirtual 1047, 3), (19, .ifCond .eq 22, 3), (22, .aload_n 0, 1), (23, .iconst 0, 1), (24, .putfield 15, 3), (27, .aload_n 0, 1), (28, .aload_n 3, 1), (29, .iconst 0, 1), (30, .iload 4, 2), (32, .invokestatic 54, 3), (35, .putfield 9, 3), (38, .goto 59, 3), (97, .return_, 1)] := dd (by decide +kernel)
theorem Y44 : DD jdk_42_method_53_code [(0, .aload_n 0, 1), (1, .aload_n 1, 1), (2, .aconst_null, 1), (3, .invokespecial 489, 3), (6, .return_, 1)] := dd (by decide +kernel)
theorem Y45 : DD jdk_67_method_42_code [(0, .new 18, 3), (3, .dup, 1), (4, .aload_n 0, 1), (5, .invokespecial 137, 3), (8, .areturn, 1)] := dd (by decide +kernel)
theorem Y46 : DD jdk_43_method_3_code [(0, .iload_n 0, 1), (1, .sipush 255, 3), (4, .if_icmp .gt 7, 3), (7, .iconst 1, 1), (8, .goto 4, 3), (12, .ireturn, 1)] := dd (by decide +kernel)
theorem Y47 : DD jdk_68_method_31_code [(0, .aload_n 0, 1), (1, .aload_n 0, 1), (2, .getfield 79, 3), (5, .iconst 1, 1), (6, .iadd, 1), (7, .invokevirtual 100, 3), (10, .aload_n 0, 1), (11, .invokevirtual 83, 3), (14, .ifCond .eq 31, 3), (17, .iload_n 1, 1), (18, .invokestatic 191, 3), (21, .ifCond .eq 24, 3), (24, .aload_n 0, 1), (25, .getfield 15, 3), (28, .aload_n 0, 1), (29, .dup, 1), (30, .getfield 79, 3), (33, .dup_x1, 1), (34, .iconst 1, 1), (35, .iadd, 1), (36, .putfield 79, 3), (39, .iload_n 1, 1), (40, .i2b, 1), (41, .bastore, 1), (42, .goto 33, 3), (75, .aload_n 0, 1), (76, .areturn, 1)] := dd (by decide +kernel)
theorem Y48 : DD jdk_67_method_14_code [(0, .aload_n 0, 1), (1, .iload_n 1, 1), (2, .invokespecial 50, 3), (5, .pop, 1), (6, .aload_n 0, 1), (7, .areturn, 1)] := dd (by decide +kernel)
theorem Y49 : DD prog_4_method_3_code [(0, .new 60, 3), (3, .dup, 1), (4, .invokespecial 62, 3), (7, .astore_n 1, 1), (8, .aload_n 0, 1), (9, .getfield 7, 3), (12, .ifnull 17, 3), (15, .aload_n 1, 1), (16, .aload_n 0, 1), (17, .getfield 7, 3), (20, .invokevirtual 63, 3), (23, .bipush 58, 2), (25, .invokevirtual 67, 3), (28, .pop, 1), (29, .aload_n 0, 1), (30, .getfield 13, 3), (33, .ifnull 17, 3), (36, .aload_n 1, 1), (37, .ldc 41, 2), (39, .invokevirtual 63, 3), (42, .aload_n 0, 1), (43, .getfield 13, 3), (46, .invokevirtual 63, 3), (49, .pop, 1), (50, .aload_n 1, 1), (51, .aload_n 0, 1), (52, .getfield 16, 3), (55, .invokevirtual 63, 3), (58, .pop, 1), (59, .aload_n 0, 1), (60, .getfield 19, 3), (63, .ifnull 17, 3), (66, .aload_n 1, 1), (67, .bipush 63, 2), (69, .invokevirtual 67, 3), (72, .aload_n 0, 1), (73, .getfield 19, 3), (76, .invokevirtual 63, 3), (79, .pop, 1), (80, .aload_n 0, 1), (81, .getfield 22, 3), (84, .ifnull 17, 3), (101, .aload_n 1, 1), (102, .invokevirtual 70, 3), (105, .areturn, 1)] := dd (by decide +kernel)
theorem Y50 : DD jdk_67_method_2_code [(0, .aload_n 0, 1), (1, .iload_n 1, 1), (2, .invokespecial 1, 3), (5, .return_, 1)] := dd (by decide +kernel)
theorem Y51 : DD jdk_42_method_153_code [(0, .aload_n 0, 1), (1, .getfield 9, 3), (4, .areturn, 1)] := dd (by decide +kernel)
theorem Y52 : DD jdk_68_method_75_code [(0, .aload_n 0, 1), (1, .invokevirtual 83, 3), (4, .ifCond .eq 141, 3), (7, .aload_n 1, 1), (8, .invokevirtual 400, 3), (11, .ifCond .eq 25, 3), (14, .aload_n 1, 1), (15, .invokevirtual 401, 3), (18, .iload_n 2, 1), (19, .aload_n 0, 1), (20, .getfield 15, 3), (23, .aload_n 0, 1), (24, .getfield 79, 3), (27, .iload_n 3, 1), (28, .iload_n 2, 1), (29, .isub, 1), (30, .invokestatic 309, 3), (33, .goto 161, 3), (194, .aload_n 0, 1), (195, .dup, 1), (196, .getfield 79, 3), (199, .iload_n 3, 1), (200, .iload_n 2, 1), (201, .isub, 1), (202, .iadd, 1), (203, .putfield 79, 3), (206, .return_, 1)] := dd (by decide +kernel)
theorem Y53 : DD jdk_68_method_27_code [(0, .aload_n 1, 1), (1, .ifnonnull 6, 3), (7, .iload_n 2, 1), (8, .iload_n 3, 1), (9, .aload_n 1, 1), (10, .invokeinterface 47 1, 5), (15, .getstatic 183, 3), (18, .invokestatic 161, 3), (21, .pop, 1), (22, .iload_n 3, 1), (23, .iload_n 2, 1), (24, .isub, 1), (25, .istore 4, 2), (27, .aload_n 0, 1), (28, .aload_n 0, 1), (29, .getfield 79, 3), (32, .iload 4, 2), (34, .iadd, 1), (35, .invokevirtual 100, 3), (38, .aload_n 1, 1), (39, .instanceof 1, 3), (42, .ifCond .eq 16, 3), (45, .aload_n 0, 1), (46, .aload_n 1, 1), (47, .checkcast 1, 3), (50, .iload_n 2, 1), (51, .iload_n 3, 1), (52, .invokevirtual 232, 3), (55, .goto 10, 3), (65, .aload_n 0, 1), (66, .areturn, 1)] := dd (by decide +kernel)
theorem Y54 : DD jdk_67_method_10_code [(0, .aload_n 0, 1), (1, .aload_n 1, 1), (2, .iload_n 2, 1), (3, .iload_n 3, 1), (4, .invokespecial 38, 3), (7, .pop, 1), (8, .aload_n 0, 1), (9, .areturn, 1)] := dd (by decide +kernel)
theorem Y55 : DD prog_3_method_6_code [(0, .aload_n 0, 1), (1, .invokevirtual 104, 3), (4, .istore_n 1, 1), (5, .new 108, 3), (8, .dup, 1), (9, .iload_n 1, 1), (10, .invokespecial 110, 3), (13, .astore_n 2, 1), (14, .iconst 0, 1), (15, .istore_n 3, 1), (16, .iload_n 3, 1), (17, .iload_n 1, 1), (18, .if_icmp .ge 205, 3), (21, .aload_n 0, 1), (22, .ldc 113, 2), (24, .iload_n 3, 1), (25, .invokevirtual 115, 3), (28, .ifCond .eq 9, 3), (37, .aload_n 0, 1), (38, .ldc 118, 2), (40, .iload_n 3, 1), (41, .invokevirtual 115, 3), (44, .ifCond .ne 13, 3), (47, .aload_n 0, 1), (48, .ldc 120, 2), (50, .iload_n 3, 1), (51, .invokevirtual 115, 3), (54, .ifCond .eq 9, 3), (63, .aload_n 0, 1), (64, .ldc 122, 2), (66, .iload_n 3, 1), (67, .invokevirtual 115, 3), (70, .ifCond .eq 22, 3), (92, .aload_n 0, 1), (93, .ldc 128, 2), (95, .iload_n 3, 1), (96, .invokevirtual 115, 3), (99, .ifCond .eq 13, 3), (112, .aload_n 0, 1), (113, .ldc 134, 2), (115, .iload_n 3, 1), (116, .invokevirtual 115, 3), (119, .ifCond .eq 26, 3), (145, .aload_n 0, 1), (146, .ldc 136, 2), (148, .iload_n 3, 1), (149, .invokevirtual 115, 3), (152, .ifCond .eq 10, 3), (162, .aload_n 0, 1), (163, .ldc 138, 2), (165, .iload_n 3, 1), (166, .invokevirtual 115, 3), (169, .ifCond .eq 15, 3), (184, .aload_n 0, 1), (185, .bipush 47, 2), (187, .iload_n 3, 1), (188, .iconst 1, 1), (189, .iadd, 1), (190, .invokevirtual 140, 3), (193, .istore 4, 2), (195, .iload 4, 2), (197, .ifCond .ge 7, 3), (200, .iload_n 1, 1), (201, .goto 5, 3), (206, .istore 5, 2), (208, .aload_n 2, 1), (209, .aload_n 0, 1), (210, .iload_n 3, 1), (211, .iload 5, 2), (213, .invokevirtual 144, 3), (216, .pop, 1), (217, .iload 5, 2), (219, .istore_n 3, 1), (220, .goto (-204), 3), (223, .aload_n 2, 1), (224, .invokevirtual 147, 3), (227, .areturn, 1)] := dd (by decide +kernel)
theorem Y56 : DD prog_3_method_4_code [(0, .aload_n 1, 1), (1, .getfield 42, 3), (4, .ifnull 25, 3), (7, .aload_n 1, 1), (8, .getfield 42, 3), (11, .astore_n 2, 1), (12, .aload_n 1, 1), (13, .getfield 45, 3), (16, .invokestatic 71, 3), (19, .astore_n 3, 1), (20, .aload_n 1, 1), (21, .getfield 74, 3), (24, .astore 4, 2), (26, .goto 118, 3), (29, .aload_n 1, 1), (30, .getfield 45, 3), (33, .invokevirtual 77, 3), (36, .ifCond .eq 45, 3), (39, .aload_n 0, 1), (40, .getfield 13, 3), (43, .getfield 42, 3), (46, .astore_n 2, 1), (47, .aload_n 0, 1), (48, .getfield 13, 3), (51, .getfield 45, 3), (54, .astore_n 3, 1), (55, .aload_n 1, 1), (56, .getfield 74, 3), (59, .ifnull 10, 3), (62, .aload_n 1, 1), (63, .getfield 74, 3), (66, .goto 10, 3), (69, .aload_n 0, 1), (70, .getfield 13, 3), (73, .getfield 74, 3), (76, .astore 4, 2), (78, .goto 66, 3), (81, .aload_n 1, 1), (82, .getfield 45, 3), (85, .ldc 81, 2), (87, .invokevirtual 50, 3), (90, .ifCond .eq 28, 3), (93, .aload_n 0, 1), (94, .getfield 13, 3), (97, .getfield 42, 3), (100, .astore_n 2, 1), (101, .aload_n 1, 1), (102, .getfield 45, 3), (105, .invokestatic 71, 3), (108, .astore_n 3, 1), (109, .aload_n 1, 1), (110, .getfield 74, 3), (113, .astore 4, 2), (115, .goto 29, 3), (144, .new 18, 3), (147, .dup, 1), (148, .aload_n 0, 1), (149, .getfield 13, 3), (152, .getfield 23, 3), (155, .aload_n 2, 1), (156, .aload_n 3, 1), (157, .aload 4, 2), (159, .aload_n 1, 1), (160, .getfield 86, 3), (163, .invokespecial 89, 3), (166, .areturn, 1)] := dd (by decide +kernel)
theorem Y57 : DD prog_3_method_3_code [(0, .aload_n 1, 1), (1, .invokestatic 17, 3), (4, .astore_n 2, 1), (5, .aload_n 2, 1), (6, .getfield 23, 3), (9, .ifnull 8, 3), (17, .aload_n 0, 1), (18, .aload_n 2, 1), (19, .invokevirtual 38, 3), (22, .astore 4, 2), (24, .aload 4, 2), (26, .getfield 42, 3), (29, .ifnonnull 49, 3), (32, .aload 4, 2), (34, .getfield 45, 3), (37, .ldc 48, 2), (39, .invokevirtual 50, 3), (42, .ifCond .eq 36, 3), (78, .aload 4, 2), (80, .invokevirtual 67, 3), (83, .astore_n 3, 1), (84, .aload_n 3, 1), (85, .areturn, 1)] := dd (by decide +kernel)
theorem Y58 : DD method_2_code [(0, .iload_n 0, 1), (1, .bipush 7, 2), (3, .iand, 1), (4, .istore_n 1, 1), (5, .iload_n 1, 1), (6, .ifCond .ne 6, 3), (9, .bipush 97, 2), (11, .ireturn, 1), (12, .iload_n 1, 1), (13, .iconst 1, 1), (14, .if_icmp .ne 6, 3), (17, .bipush 58, 2), (19, .ireturn, 1), (20, .iload_n 1, 1), (21, .iconst 2, 1), (22, .if_icmp .ne 6, 3), (25, .bipush 47, 2), (27, .ireturn, 1), (28, .iload_n 1, 1), (29, .iconst 3, 1), (30, .if_icmp .ne 6, 3), (33, .bipush 63, 2), (35, .ireturn, 1), (36, .iload_n 1, 1), (37, .iconst 4, 1), (38, .if_icmp .ne 6, 3), (41, .bipush 35, 2), (43, .ireturn, 1), (44, .iload_n 1, 1), (45, .iconst 5, 1), (46, .if_icmp .ne 6, 3), (49, .bipush 46, 2), (51, .ireturn, 1), (52, .iload_n 0, 1), (53, .iconst 3, 1), (54, .iushr, 1), (55, .sipush 255, 3), (58, .iand, 1), (59, .i2c, 1), (60, .ireturn, 1)] := dd (by decide +kernel)
theorem Y59 : DD method_3_code [(0, .iload_n 2, 1), (1, .ifCond .gt 12, 3), (4, .aload_n 0, 1), (5, .iconst 0, 1), (6, .caload, 1), (7, .iload_n 1, 1), (8, .if_icmp .ne 5, 3), (11, .iconst 0, 1), (12, .ireturn, 1), (13, .iload_n 2, 1), (14, .iconst 1, 1), (15, .if_icmp .gt 12, 3), (18, .aload_n 0, 1), (19, .iconst 1, 1), (20, .caload, 1), (21, .iload_n 1, 1), (22, .if_icmp .ne 5, 3), (25, .iconst 1, 1), (26, .ireturn, 1), (27, .iload_n 2, 1), (28, .iconst 2, 1), (29, .if_icmp .gt 12, 3), (32, .aload_n 0, 1), (33, .iconst 2, 1), (34, .caload, 1), (35, .iload_n 1, 1), (36, .if_icmp .ne 5, 3), (39, .iconst 2, 1), (40, .ireturn, 1), (41, .iload_n 2, 1), (42, .iconst 3, 1), (43, .if_icmp .gt 12, 3), (46, .aload_n 0, 1), (47, .iconst 3, 1), (48, .caload, 1), (49, .iload_n 1, 1), (50, .if_icmp .ne 5, 3), (53, .iconst 3, 1), (54, .ireturn, 1), (55, .iload_n 2, 1), (56, .iconst 4, 1), (57, .if_icmp .gt 12, 3), (60, .aload_n 0, 1), (61, .iconst 4, 1), (62, .caload, 1), (63, .iload_n 1, 1), (64, .if_icmp .ne 5, 3), (67, .iconst 4, 1), (68, .ireturn, 1), (69, .iload_n 2, 1), (70, .iconst 5, 1), (71, .if_icmp .gt 12, 3), (74, .aload_n 0, 1), (75, .iconst 5, 1), (76, .caload, 1), (77, .iload_n 1, 1), (78, .if_icmp .ne 5, 3), (81, .iconst 5, 1), (82, .ireturn, 1), (83, .bipush 6, 2), (85, .ireturn, 1)] := dd (by decide +kernel)
theorem Y60 : DD method_4_code [(0, .iload_n 2, 1), (1, .ifCond .le 14, 3), (4, .aload_n 0, 1), (5, .iconst 0, 1), (6, .invokevirtual 7, 3), (9, .aload_n 1, 1), (10, .iconst 0, 1), (11, .caload, 1), (12, .if_icmp .ne 87, 3), (15, .iload_n 2, 1), (16, .iconst 1, 1), (17, .if_icmp .le 14, 3), (20, .aload_n 0, 1), (21, .iconst 1, 1), (22, .invokevirtual 7, 3), (25, .aload_n 1, 1), (26, .iconst 1, 1), (27, .caload, 1), (28, .if_icmp .ne 71, 3), (31, .iload_n 2, 1), (32, .iconst 2, 1), (33, .if_icmp .le 14, 3), (36, .aload_n 0, 1), (37, .iconst 2, 1), (38, .invokevirtual 7, 3), (41, .aload_n 1, 1), (42, .iconst 2, 1), (43, .caload, 1), (44, .if_icmp .ne 55, 3), (47, .iload_n 2, 1), (48, .iconst 3, 1), (49, .if_icmp .le 14, 3), (52, .aload_n 0, 1), (53, .iconst 3, 1), (54, .invokevirtual 7, 3), (57, .aload_n 1, 1), (58, .iconst 3, 1), (59, .caload, 1), (60, .if_icmp .ne 39, 3), (63, .iload_n 2, 1), (64, .iconst 4, 1), (65, .if_icmp .le 14, 3), (68, .aload_n 0, 1), (69, .iconst 4, 1), (70, .invokevirtual 7, 3), (73, .aload_n 1, 1), (74, .iconst 4, 1), (75, .caload, 1), (76, .if_icmp .ne 23, 3), (79, .iload_n 2, 1), (80, .iconst 5, 1), (81, .if_icmp .le 14, 3), (84, .aload_n 0, 1), (85, .iconst 5, 1), (86, .invokevirtual 7, 3), (89, .aload_n 1, 1), (90, .iconst 5, 1), (91, .caload, 1), (92, .if_icmp .ne 7, 3), (95, .iconst 1, 1), (96, .goto 4, 3), (100, .ireturn, 1)] := dd (by decide +kernel)
end Words
def Glob (Z : State) (a0 : Array Value) (EL : List (String × Nat)) : Prop :=
  (∀ d ∈ tables_1, d.before a0 Z = true) ∧ EW Z a0 EL ∧ EL = consts_1 ∧ (∃ z : Int32, Sta Z Z.heap "java/lang/String" "COMPACT_STRINGS" "Z" (.int z) ∧ ¬ z = 0) ∧ (∃ v : Value, Sta Z Z.heap "jdk/internal/util/Preconditions" "SIOOBE_FORMATTER" "Ljava/util/function/BiFunction;" v ∧ v.isRef = true) ∧ (∃ v : Value, Sta Z Z.heap "jdk/internal/util/Preconditions" "IOOBE_FORMATTER" "Ljava/util/function/BiFunction;" v ∧ v.isRef = true)
theorem Glob.hw {Z : State} {a0 : Array Value} {EL : List (String × Nat)} (G : Glob Z a0 EL) : ∀ d ∈ tables_1, d.before a0 Z = true := G.1
theorem Glob.ew {Z : State} {a0 : Array Value} {EL : List (String × Nat)} (G : Glob Z a0 EL) : EW Z a0 EL := G.2.1
theorem Glob.el {Z : State} {a0 : Array Value} {EL : List (String × Nat)} (G : Glob Z a0 EL) : EL = consts_1 := G.2.2.1
theorem Glob.cs {Z : State} {a0 : Array Value} {EL : List (String × Nat)} (G : Glob Z a0 EL) : ∃ z : Int32, Sta Z Z.heap "java/lang/String" "COMPACT_STRINGS" "Z" (.int z) ∧ ¬ z = 0 := G.2.2.2.1
theorem Glob.fm {Z : State} {a0 : Array Value} {EL : List (String × Nat)} (G : Glob Z a0 EL) : ∃ v : Value, Sta Z Z.heap "jdk/internal/util/Preconditions" "SIOOBE_FORMATTER" "Ljava/util/function/BiFunction;" v ∧ v.isRef = true := G.2.2.2.2.1
theorem Glob.fo {Z : State} {a0 : Array Value} {EL : List (String × Nat)} (G : Glob Z a0 EL) : ∃ v : Value, Sta Z Z.heap "jdk/internal/util/Preconditions" "IOOBE_FORMATTER" "Ljava/util/function/BiFunction;" v ∧ v.isRef = true := G.2.2.2.2.2
theorem Glob.wS {Z : State} {a0 : Array Value} {EL : List (String × Nat)} (G : Glob Z a0 EL) : ∀ a ∈ Bundle.stringAtoms, a.before a0 Z = true := fun d hd => G.hw d ((by decide +kernel : ∀ d ∈ Bundle.stringAtoms, d ∈ tables_1) d hd)
theorem Glob.w_backV {Z : State} {a0 : Array Value} {EL : List (String × Nat)} (G : Glob Z a0 EL) : ∀ d ∈ StrChars.Road.words, d.before a0 Z = true := fun d hd => G.hw d ((by decide +kernel : ∀ d ∈ StrChars.Road.words, d ∈ tables_1) d hd)
section Walks
variable (l : Launch) (Z : State) (a0 : Array Value) (EL : List (String × Nat))
theorem rm_coder (G : Glob Z a0 EL) (a : Addr) (h : Heap) (O : Ext Z.heap h) (F0 : Fld Z h a "java/lang/String" "coder" "B" (.int 0)) :
    Met l Z EL true ⟨"java/lang/String", "coder", "()B"⟩ jdk_42_method_152_code 1 (some .byte) [] ⟨0, 0, 0, 0⟩ #[(.ref a)] h [] (fun r h' => r = some (.int 0) ∧ h = h') := by
  have hw := G.hw
  obtain ⟨zc, Sc, hzc⟩ := G.cs
  obtain ⟨vo, So, hvo⟩ := G.fo
  refine Met.of (plainFor_of_name pn_537472696e67_6) G.ew O ?_
  intro p e s m below meth c T0 C0 S0
  refine Endw.eq (g' := mkF m 0 #[.val (.ref a)] []) rfl ?_
  refine C0.getS (wd hw 21 rfl) Sc (Y0 0 rfl) (pc' := 3) rfl ?_
  intro T1 C1
  refine C1.fN (Y0 1 rfl) (XT.i0_eq_f hzc) (C1.aL (Y0 2 rfl) rfl rfl ?_)
  refine C1.getF (wd hw 33 rfl) F0 (Y0 3 rfl) (pc' := 10) rfl ?_
  intro T2 C2
  refine C2.go (pc' := 14) (Y0 4 rfl) (by decide) rfl ?_
  exact C2.retI (t := .byte) rfl (by simp) rfl (Y0 5 rfl) (by decide) (by decide) ⟨rfl, rfl⟩
theorem rm_isLatin1 (G : Glob Z a0 EL) (a : Addr) (h : Heap) (O : Ext Z.heap h) (F0 : Fld Z h a "java/lang/String" "coder" "B" (.int 0)) :
    Met l Z EL true ⟨"java/lang/String", "isLatin1", "()Z"⟩ jdk_42_method_154_code 1 (some .boolean) [] ⟨0, 0, 0, 0⟩ #[(.ref a)] h [] (fun r h' => r = some (.int 1) ∧ h = h') := by
  have hw := G.hw
  obtain ⟨zc, Sc, hzc⟩ := G.cs
  obtain ⟨vo, So, hvo⟩ := G.fo
  refine Met.of (plainFor_of_name pn_537472696e67_6) G.ew O ?_
  intro p e s m below meth c T0 C0 S0
  refine Endw.eq (g' := mkF m 0 #[.val (.ref a)] []) rfl ?_
  refine C0.getS (wd hw 21 rfl) Sc (Y1 0 rfl) (pc' := 3) rfl ?_
  intro T1 C1
  refine C1.fN (Y1 1 rfl) (XT.i0_eq_f hzc) (C1.aL (Y1 2 rfl) rfl rfl ?_)
  refine C1.getF (wd hw 33 rfl) F0 (Y1 3 rfl) (pc' := 10) rfl ?_
  intro T2 C2
  refine C2.fN (Y1 4 rfl) (XT.i0_ne_f (by decide)) (C2.ic (z := 1) (Y1 5 rfl) rfl (C2.go (pc' := 18) (Y1 6 rfl) (by decide) rfl ?_))
  exact C2.retI (t := .boolean) rfl (by simp) rfl (Y1 7 rfl) (by decide) (by decide) ⟨rfl, rfl⟩
theorem rm_strLen (G : Glob Z a0 EL) (a t : Addr) (kb : ClassId) (cs : List Int32) (h : Heap) (O : Ext Z.heap h) (S : Str Z h a t kb cs) :
    Met l Z EL true ⟨"java/lang/String", "length", "()I"⟩ jdk_42_method_54_code 1 (some .int) [] ⟨1, 0, 0, 13⟩ #[(.ref a)] h [] (fun r h' => r = some (.int (Int32.ofNat cs.length)) ∧ h = h') := by
  have hw := G.hw
  obtain ⟨vo, So, hvo⟩ := G.fo
  refine Met.of (plainFor_of_name pn_537472696e67_6) G.ew O ?_
  intro p e s m below meth c T0 C0 S0
  refine Endw.eq (g' := mkF m 0 #[.val (.ref a)] []) rfl ?_
  refine C0.aL (Y2 0 rfl) rfl rfl ?_
  refine C0.getF (W35 hw) S.2.2.1 (Y2 1 rfl) (pc' := 4) rfl ?_
  intro T1 C1
  refine C1.len S.2.2.2.1 (Y2 2 rfl) (pc' := 5) rfl ?_
  refine C1.aL (Y2 3 rfl) rfl rfl ?_
  refine C1.virtual (W := 1) (wd hw 65 rfl) (wd hw 66 rfl) (fun _ q => notFace_of_selects (args := #[]) (mvT q (W68 hw))) (W68 hw) (wd hw 67 rfl) (wd hw 69 rfl) (W10 hw) (by decide) (rm_coder l Z a0 EL G a h C1.old S.2.1) (fun _ => rfl) rfl S.1 all0 (by decide) (by decide) (by decide) (by decide) (lenOf pd_282942 rfl) rfl (nb rfl) rfl (Y2 4 rfl) (pc' := 9) rfl ?_
  intro vm2 T2 h2 v2 C2 A2 M2 q2
  obtain ⟨rfl, rfl⟩ := q2
  refine Endw.st (T' := T2) (g' := (mkF m 10 #[.val (.ref a)] [(.int ((Int32.ofNat cs.length) >>> ((0 : Int32) &&& 31)))])) (fun _ k_ => XS.ishr C2.here C2.hx rfl (C2.dec (Y2 5 rfl)) rfl k_) ?_
  rw [own_shr0]
  exact C2.retI (t := .int) rfl (by simp) rfl (Y2 6 rfl) (by decide) (by decide) ⟨rfl, rfl⟩
theorem rm_min (G : Glob Z a0 EL) (x y : Int32) (h : Heap) (O : Ext Z.heap h)  :
    Met l Z EL true ⟨"java/lang/Math", "min", "(II)I"⟩ jdk_29_method_69_code 2 (some .int) [] ⟨0, 0, 0, 0⟩ #[(.int x), (.int y)] h [] (fun r h' => r = some (.int (if y < x then y else x)) ∧ h = h') := by
  obtain ⟨vo, So, hvo⟩ := G.fo
  refine Met.of (by decide +kernel) G.ew O ?_
  intro p e s m below meth c T0 C0 S0
  refine Endw.eq (g' := mkF m 0 #[.val (.int x), .val (.int y)] []) rfl ?_
  refine C0.iL (Y3 0 rfl) rfl (C0.iL (Y3 1 rfl) rfl ?_)
  by_cases c1 : y < x
  · refine C0.cY (pc' := 9) (Y3 2 rfl) (XT.ii_gt_t c1) (by decide) rfl (C0.iL (Y3 5 rfl) rfl ?_)
    exact C0.retI (t := .int) rfl (by simp) rfl (Y3 6 rfl) (by decide) (by decide) ⟨by rw [if_pos c1], rfl⟩
  · refine C0.cN (Y3 2 rfl) (XT.ii_gt_f c1) (C0.iL (Y3 3 rfl) rfl (C0.go (pc' := 10) (Y3 4 rfl) (by decide) rfl ?_))
    exact C0.retI (t := .int) rfl (by simp) rfl (Y3 6 rfl) (by decide) (by decide) ⟨by rw [if_neg c1], rfl⟩
theorem rm_max (G : Glob Z a0 EL) (x y : Int32) (h : Heap) (O : Ext Z.heap h)  :
    Met l Z EL true ⟨"java/lang/Math", "max", "(II)I"⟩ jdk_29_method_65_code 2 (some .int) [] ⟨0, 0, 0, 0⟩ #[(.int x), (.int y)] h [] (fun r h' => r = some (.int (if x < y then y else x)) ∧ h = h') := by
  obtain ⟨vo, So, hvo⟩ := G.fo
  refine Met.of (by decide +kernel) G.ew O ?_
  intro p e s m below meth c T0 C0 S0
  refine Endw.eq (g' := mkF m 0 #[.val (.int x), .val (.int y)] []) rfl ?_
  refine C0.iL (Y4 0 rfl) rfl (C0.iL (Y4 1 rfl) rfl ?_)
  by_cases c1 : x < y
  · refine C0.cY (pc' := 9) (Y4 2 rfl) (XT.ii_lt_t c1) (by decide) rfl (C0.iL (Y4 5 rfl) rfl ?_)
    exact C0.retI (t := .int) rfl (by simp) rfl (Y4 6 rfl) (by decide) (by decide) ⟨by rw [if_pos c1], rfl⟩
  · refine C0.cN (Y4 2 rfl) (XT.ii_lt_f c1) (C0.iL (Y4 3 rfl) rfl (C0.go (pc' := 10) (Y4 4 rfl) (by decide) rfl ?_))
    exact C0.retI (t := .int) rfl (by simp) rfl (Y4 6 rfl) (by decide) (by decide) ⟨by rw [if_neg c1], rfl⟩
theorem rm_checkLen (G : Glob Z a0 EL) (x y : Int32) (hxy : ¬ y < x) (h : Heap) (O : Ext Z.heap h)  :
    Met l Z EL true ⟨"java/util/Arrays", "checkLength", "(II)V"⟩ jdk_65_method_131_code 2 none [] ⟨0, 0, 0, 0⟩ #[(.int x), (.int y)] h [] (fun r h' => r = none ∧ h = h') := by
  obtain ⟨vo, So, hvo⟩ := G.fo
  refine Met.of (plainFor_of_name pn_417272617973_10) G.ew O ?_
  intro p e s m below meth c T0 C0 S0
  refine Endw.eq (g' := mkF m 0 #[.val (.int x), .val (.int y)] []) rfl ?_
  refine C0.iL (Y5 0 rfl) rfl (C0.iL (Y5 1 rfl) rfl (C0.cY (pc' := 37) (Y5 2 rfl) (XT.ii_ge_t hxy) (by decide) rfl ?_))
  exact C0.retV (Y5 3 rfl) (by decide) (by decide) ⟨rfl, rfl⟩
theorem rm_pci (G : Glob Z a0 EL) (i n : Nat) (vv : Value) (hvv : vv.isRef = true) (h : Heap) (O : Ext Z.heap h) (hi : i < n) (hn : n ≤ 4000) :
    Met l Z EL true ⟨"jdk/internal/util/Preconditions", "checkIndex", "(IILjava/util/function/BiFunction;)I"⟩ jdk_41_method_11_code 3 (some .int) [] ⟨0, 0, 0, 0⟩ #[(.int (Int32.ofNat i)), (.int (Int32.ofNat n)), vv] h [] (fun r h' => r = some (.int (Int32.ofNat i)) ∧ h = h') := by
  obtain ⟨vo, So, hvo⟩ := G.fo
  refine Met.of (plainFor_of_name pn_6974696f6e73_12) G.ew O ?_
  intro p e s m below meth c T0 C0 S0
  refine Endw.eq (g' := mkF m 0 #[.val (.int (Int32.ofNat i)), .val (.int (Int32.ofNat n)), .val vv] []) (by first | rfl | (simp [entryFrame, mkF, argsToLocals, own_cI, own_cR, own_cN, own_cJ, own_cD, maxLocals, XT.cat1 hvv]; done)) ?_
  refine C0.iL (Y6 0 rfl) rfl (C0.fN (Y6 1 rfl) (XT.i0_lt_f (own_nn (by omega))) (C0.iL (Y6 2 rfl) rfl (C0.iL (Y6 3 rfl) rfl (C0.cY (pc' := 16) (Y6 4 rfl) (XT.ii_lt_t ((own_lt (by omega) (by omega)).mpr hi)) (by decide) rfl (C0.iL (Y6 5 rfl) rfl ?_)))))
  exact C0.retI (t := .int) rfl (by simp) rfl (Y6 6 rfl) (by decide) (by decide) ⟨rfl, rfl⟩
theorem rm_sci (G : Glob Z a0 EL) (i n : Nat) (h : Heap) (O : Ext Z.heap h) (hi : i < n) (hn : n ≤ 4000) :
    Met l Z EL true ⟨"java/lang/String", "checkIndex", "(II)V"⟩ jdk_42_method_155_code 2 none [] ⟨1, 0, 0, 14⟩ #[(.int (Int32.ofNat i)), (.int (Int32.ofNat n))] h [] (fun r h' => r = none ∧ h = h') := by
  have hw := G.hw
  obtain ⟨vf, Sf, hvf⟩ := G.fm
  obtain ⟨vo, So, hvo⟩ := G.fo
  refine Met.of (plainFor_of_name pn_537472696e67_6) G.ew O ?_
  intro p e s m below meth c T0 C0 S0
  refine Endw.eq (g' := mkF m 0 #[.val (.int (Int32.ofNat i)), .val (.int (Int32.ofNat n))] []) rfl ?_
  refine C0.iL (Y7 0 rfl) rfl (C0.iL (Y7 1 rfl) rfl ?_)
  refine C0.getS (wd hw 102 rfl) Sf (Y7 2 rfl) (pc' := 5) rfl ?_
  intro T1 C1
  refine C1.static (W := 0) (wd hw 104 rfl) (wd hw 105 rfl) (wd hw 106 rfl) (wd hw 103 rfl) (by decide) (rm_pci l Z a0 EL G i n vf hvf h C1.old hi hn) (fun _ => rfl) rfl all0 (by decide) (by decide) (by decide) (by decide) (lenOf pd_21 rfl) rfl (nb rfl) rfl (Y7 3 rfl) (pc' := 8) rfl ?_
  intro vm2 T2 h2 v2 C2 A2 M2 q2
  obtain ⟨rfl, rfl⟩ := q2
  refine Endw.st (T' := T2) (g' := (mkF m 9 #[.val (.int (Int32.ofNat i)), .val (.int (Int32.ofNat n))] [])) (fun _ k_ => XS.pop C2.here C2.hx rfl (C2.dec (Y7 4 rfl)) rfl rfl k_) ?_
  exact C2.retV (Y7 5 rfl) (by decide) (by decide) ⟨rfl, rfl⟩
theorem rm_lch (G : Glob Z a0 EL) (t : Addr) (kb : ClassId) (cs : List Int32) (i : Nat) (x : Int32) (h : Heap) (O : Ext Z.heap h) (D : Arv Z h t kb .byte (Int32.ofNat cs.length) (bys cs) (.int 0)) (hi : i < cs.length) (hx : cs.getD i 0 = x) (hb : B8 x) (h4 : cs.length ≤ 4000) :
    Met l Z EL true ⟨"java/lang/StringLatin1", "charAt", "([BI)C"⟩ jdk_43_method_2_code 2 (some .char) [] ⟨2, 0, 0, 27⟩ #[(.ref t), (.int (Int32.ofNat i))] h [] (fun r h' => r = some (.int x) ∧ h = h') := by
  have hw := G.hw
  obtain ⟨vo, So, hvo⟩ := G.fo
  refine Met.of (plainFor_of_name pn_4c6174696e31_8) G.ew O ?_
  intro p e s m below meth c T0 C0 S0
  refine Endw.eq (g' := mkF m 0 #[.val (.ref t), .val (.int (Int32.ofNat i))] []) rfl ?_
  refine C0.iL (Y8 0 rfl) rfl (C0.aL (Y8 1 rfl) rfl rfl ?_)
  refine C0.len D (Y8 2 rfl) (pc' := 3) rfl ?_
  refine C0.static (W := 0) (wd hw 99 rfl) (wd hw 100 rfl) (wd hw 101 rfl) (W10 hw) (by decide) (rm_sci l Z a0 EL G i cs.length h C0.old hi h4) (fun _ => rfl) rfl all0 (by decide) (by decide) (by decide) (by decide) (lenOf pd_2849492956 rfl) rfl (nb rfl) rfl (Y8 3 rfl) (pc' := 6) rfl ?_
  intro vm1 T1 h1 v1 C1 A1 M1 q1
  obtain ⟨rfl, rfl⟩ := q1
  refine C1.aL (Y8 4 rfl) rfl rfl (C1.iL (Y8 5 rfl) rfl ?_)
  refine C1.baloadN (j := i) D hi (by omega) (v := (.int (own_lo x))) (by rw [own_bysD cs hi, hx]) (Y8 6 rfl) (pc' := 9) rfl ?_
  refine C1.si (z := 255) (Y8 7 rfl) rfl (C1.an (z := ((own_lo x) &&& (255 : Int32))) (Y8 8 rfl) rfl ?_)
  rw [show ((own_lo x) &&& (255 : Int32)) = x from own_chr8 hb]
  refine Endw.st (T' := T1) (g' := (mkF m 14 #[.val (.ref t), .val (.int (Int32.ofNat i))] [(.int (x.toUInt32.toUInt16.toUInt32.toInt32))])) (fun _ k_ => XS.i2c C1.here C1.hx rfl (C1.dec (Y8 9 rfl)) rfl k_) ?_
  rw [show x.toUInt32.toUInt16.toUInt32.toInt32 = x from own_i2c16 (own_b16 hb)]
  exact C1.retI (t := .char) rfl (by simp) (own_narC (own_b16 hb)) (Y8 10 rfl) (by decide) (by decide) ⟨rfl, rfl⟩
theorem rm_chr (G : Glob Z a0 EL) (a t : Addr) (kb : ClassId) (cs : List Int32) (i : Nat) (x : Int32) (h : Heap) (O : Ext Z.heap h) (S : Str Z h a t kb cs) (hi : i < cs.length) (hx : cs.getD i 0 = x) :
    Met l Z EL true ⟨"java/lang/String", "charAt", "(I)C"⟩ jdk_42_method_56_code 2 (some .char) [] ⟨3, 0, 0, 40⟩ #[(.ref a), (.int (Int32.ofNat i))] h [] (fun r h' => r = some (.int x) ∧ h = h') := by
  have hw := G.hw
  obtain ⟨vo, So, hvo⟩ := G.fo
  refine Met.of (plainFor_of_name pn_537472696e67_6) G.ew O ?_
  intro p e s m below meth c T0 C0 S0
  refine Endw.eq (g' := mkF m 0 #[.val (.ref a), .val (.int (Int32.ofNat i))] []) rfl ?_
  refine C0.aL (Y9 0 rfl) rfl rfl ?_
  refine C0.virtual (W := 0) (W55 hw) (W56 hw) (fun _ q => notFace_of_selects (args := #[]) (mvT q (W58 hw))) (W58 hw) (W57 hw) (W59 hw) (W10 hw) (by decide) (rm_isLatin1 l Z a0 EL G a h C0.old S.2.1) (fun _ => rfl) rfl S.1 all0 (by decide) (by decide) (by decide) (by decide) (lenOf pd_28295a rfl) rfl (nb rfl) rfl (Y9 1 rfl) (pc' := 4) rfl ?_
  intro vm1 T1 h1 v1 C1 A1 M1 q1
  obtain ⟨rfl, rfl⟩ := q1
  refine C1.fN (Y9 2 rfl) (XT.i0_eq_f (by decide)) (C1.aL (Y9 3 rfl) rfl rfl ?_)
  refine C1.getF (W35 hw) S.2.2.1 (Y9 4 rfl) (pc' := 11) rfl ?_
  intro T2 C2
  refine C2.iL (Y9 5 rfl) rfl ?_
  refine C2.static (W := 0) (wd hw 96 rfl) (wd hw 97 rfl) (wd hw 98 rfl) (W72 hw) (by decide) (rm_lch l Z a0 EL G t kb cs i x h C2.old S.2.2.2.1 hi hx (hx ▸ own_getAll hi S.2.2.2.2.1) S.le4) (fun _ => rfl) rfl all0 (by decide) (by decide) (by decide) (by decide) (lenOf pd_285b42492943 rfl) rfl (nb rfl) rfl (Y9 6 rfl) (pc' := 15) rfl ?_
  intro vm3 T3 h3 v3 C3 A3 M3 q3
  obtain ⟨rfl, rfl⟩ := q3
  exact C3.retI (t := .char) rfl (by simp) (own_narC (own_b16 (hx ▸ own_getAll hi S.2.2.2.2.1))) (Y9 7 rfl) (by decide) (by decide) ⟨rfl, rfl⟩
theorem rm_isEmpty (G : Glob Z a0 EL) (a t : Addr) (kb : ClassId) (cs : List Int32) (h : Heap) (O : Ext Z.heap h) (S : Str Z h a t kb cs) :
    Met l Z EL true ⟨"java/lang/String", "isEmpty", "()Z"⟩ jdk_42_method_55_code 1 (some .boolean) [] ⟨0, 0, 0, 0⟩ #[(.ref a)] h [] (fun r h' => r = some (.int (if (Int32.ofNat cs.length) = (0 : Int32) then 1 else 0)) ∧ h = h') := by
  have hw := G.hw
  obtain ⟨vo, So, hvo⟩ := G.fo
  refine Met.of (plainFor_of_name pn_537472696e67_6) G.ew O ?_
  intro p e s m below meth c T0 C0 S0
  refine Endw.eq (g' := mkF m 0 #[.val (.ref a)] []) rfl ?_
  refine C0.aL (Y10 0 rfl) rfl rfl ?_
  refine C0.getF (W35 hw) S.2.2.1 (Y10 1 rfl) (pc' := 4) rfl ?_
  intro T1 C1
  refine C1.len S.2.2.2.1 (Y10 2 rfl) (pc' := 5) rfl ?_
  by_cases c2 : (Int32.ofNat cs.length) = (0 : Int32)
  · refine C1.fN (Y10 3 rfl) (XT.i0_ne_f c2) (C1.ic (z := 1) (Y10 4 rfl) rfl (C1.go (pc' := 13) (Y10 5 rfl) (by decide) rfl ?_))
    exact C1.retI (t := .boolean) rfl (by simp) rfl (Y10 7 rfl) (by decide) (by decide) ⟨by rw [if_pos c2], rfl⟩
  · refine C1.fY (pc' := 12) (Y10 3 rfl) (XT.i0_ne_t c2) (by decide) rfl (C1.ic (z := 0) (Y10 6 rfl) rfl ?_)
    exact C1.retI (t := .boolean) rfl (by simp) rfl (Y10 7 rfl) (by decide) (by decide) ⟨by rw [if_neg c2], rfl⟩
theorem rm_canEncI (G : Glob Z a0 EL) (x : Int32) (h : Heap) (O : Ext Z.heap h) (hx : B8 x) :
    Met l Z EL true ⟨"java/lang/StringLatin1", "canEncode", "(I)Z"⟩ jdk_43_method_4_code 1 (some .boolean) [] ⟨0, 0, 0, 0⟩ #[(.int x)] h [] (fun r h' => r = some (.int 1) ∧ h = h') := by
  obtain ⟨vo, So, hvo⟩ := G.fo
  refine Met.of (plainFor_of_name pn_4c6174696e31_8) G.ew O ?_
  intro p e s m below meth c T0 C0 S0
  refine Endw.eq (g' := mkF m 0 #[.val (.int x)] []) rfl ?_
  refine C0.iL (Y11 0 rfl) rfl (C0.fN (Y11 1 rfl) (XT.i0_lt_f hx.1) (C0.iL (Y11 2 rfl) rfl (C0.si (z := 255) (Y11 3 rfl) rfl (C0.cN (Y11 4 rfl) (XT.ii_gt_f hx.2) (C0.ic (z := 1) (Y11 5 rfl) rfl (C0.go (pc' := 16) (Y11 6 rfl) (by decide) rfl ?_))))))
  exact C0.retI (t := .boolean) rfl (by simp) rfl (Y11 7 rfl) (by decide) (by decide) ⟨rfl, rfl⟩
theorem rm_ixc (G : Glob Z a0 EL) (t : Addr) (kb : ClassId) (cs : List Int32) (ch : Int32) (f : Nat) (h : Heap) (O : Ext Z.heap h) (D : Arv Z h t kb .byte (Int32.ofNat cs.length) (bys cs) (.int 0)) (hb : ∀ c ∈ cs, B8 c) (hch : B8 ch) (hf : f ≤ cs.length) (h4 : cs.length ≤ 4000) :
    Met l Z EL true ⟨"java/lang/StringLatin1", "indexOfChar", "([BIII)I"⟩ jdk_43_method_23_code 6 (some .int) [] ⟨0, 0, 0, 0⟩ #[(.ref t), (.int ch), (.int (Int32.ofNat f)), (.int (Int32.ofNat cs.length))] h [] (fun r h' => ∃ z : Int32, r = some (.int z) ∧ own_fnd ch cs f z ∧ h = h') := by
  obtain ⟨vo, So, hvo⟩ := G.fo
  refine Met.of (plainFor_of_name pn_4c6174696e31_8) G.ew O ?_
  intro p e s m below meth c T0 C0 S0
  refine Endw.eq (g' := mkF m 0 #[.val (.ref t), .val (.int ch), .val (.int (Int32.ofNat f)), .val (.int (Int32.ofNat cs.length)), .unset, .unset] []) rfl ?_
  have J7 : ∀ (tt : Nat) (j : Nat) (vm : Vm) (T : State) , (cs.length = j + tt) → (∀ z, own_fnd ch cs j z → own_fnd ch cs f z) → Core p l e ⟨0, 0, 0, 0⟩ s m #[(.ref t), (.int ch), (.int (Int32.ofNat f)), (.int (Int32.ofNat cs.length))] below meth c jdk_43_method_23_code 6 (some .int) "indexOfChar" "java/lang/StringLatin1" Z a0 EL true vm T h 0 0 → Endw p e below T (mkF m 7 #[.val (.ref t), .val (.int ch), .val (.int (Int32.ofNat f)), .val (.int (Int32.ofNat cs.length)), .val (.int (ch.toInt8.toInt32)), .val (.int (Int32.ofNat j))] []) (Fin s Z EL true (fun r h' => ∃ z : Int32, r = some (.int z) ∧ own_fnd ch cs f z ∧ h = h') (({ frames := 0, cells := 0, slots := 0, locals := 0 } : Room)).cells (({ frames := 0, cells := 0, slots := 0, locals := 0 } : Room)).slots) := by
    intro tt
    induction tt with
    | zero =>
      intro j vm T hj hD C
      refine C.iLk (Y12 5 rfl) rfl (C.iL (Y12 6 rfl) rfl (C.cY (pc' := 31) (Y12 7 rfl) (XT.ii_ge_t (fun q => absurd ((own_lt (by omega) (by omega)).mp q) (by omega))) (by decide) rfl (C.ic (z := (-1)) (Y12 17 rfl) rfl ?_)))
      exact C.retI (t := .int) rfl (by simp) rfl (Y12 18 rfl) (by decide) (by decide) ⟨_, rfl, hD _ (own_fndE (by omega)), rfl⟩
    | succ tt ih =>
      intro j vm T hj hD C
      obtain ⟨y0, r0, ec0, lt0, eg0, er0⟩ := (own_at cs (i := j) (by omega)).resolve_left (fun q => absurd q.2 (by omega))
      refine C.iLk (Y12 5 rfl) rfl (C.iL (Y12 6 rfl) rfl (C.cN (Y12 7 rfl) (XT.ii_ge_f ((own_lt (by omega) (by omega)).mpr (by omega))) (C.aL (Y12 8 rfl) rfl rfl (C.iLk (Y12 9 rfl) rfl ?_))))
      refine C.baloadN (j := j) D lt0 (by omega) (v := (.int (own_lo y0))) (by rw [own_bysD cs lt0, eg0]) (Y12 10 rfl) (pc' := 17) rfl ?_
      refine C.iLk (Y12 11 rfl) rfl ?_
      by_cases c1 : (own_lo y0) = (ch.toInt8.toInt32)
      · refine C.cN (Y12 12 rfl) (XT.ii_ne_f c1) (C.iLk (Y12 13 rfl) rfl ?_)
        exact C.retI (t := .int) rfl (by simp) rfl (Y12 14 rfl) (by decide) (by decide) ⟨_, rfl, hD _ (own_fndY ec0 lt0 (own_loInj (eg0 ▸ own_getAll lt0 hb) hch c1)), rfl⟩
      · refine C.cY (pc' := 25) (Y12 12 rfl) (XT.ii_ne_t c1) (by decide) rfl ?_
        refine Endw.st (T' := T) (g' := (mkF m 28 #[.val (.ref t), .val (.int ch), .val (.int (Int32.ofNat f)), .val (.int (Int32.ofNat cs.length)), .val (.int (ch.toInt8.toInt32)), .val (.int ((Int32.ofNat j) + (1 : Int32)))] [])) (fun _ k_ => XS.iinc C.here C.hx rfl (C.dec (Y12 15 rfl)) rfl (l' := #[.val (.ref t), .val (.int ch), .val (.int (Int32.ofNat f)), .val (.int (Int32.ofNat cs.length)), .val (.int (ch.toInt8.toInt32)), .val (.int ((Int32.ofNat j) + (1 : Int32)))]) rfl k_) ?_
        rw [show ((Int32.ofNat j) + (1 : Int32)) = (Int32.ofNat (j + 1)) from own_inc _]
        refine C.go (pc' := 7) (Y12 16 rfl) (by decide) rfl ?_
        exact ih (j + 1) vm T  (by omega) (fun z q => hD z (own_fndN ec0 er0 (fun e => c1 (congrArg own_lo e)) q)) C
  refine C0.iL (Y12 0 rfl) rfl ?_
  refine Endw.st (T' := T0) (g' := (mkF m 2 #[.val (.ref t), .val (.int ch), .val (.int (Int32.ofNat f)), .val (.int (Int32.ofNat cs.length)), .unset, .unset] [(.int (ch.toInt8.toInt32))])) (fun _ k_ => XS.i2b C0.here C0.hx rfl (C0.dec (Y12 1 rfl)) rfl k_) ?_
  refine C0.iSk (Y12 2 rfl) (l' := #[.val (.ref t), .val (.int ch), .val (.int (Int32.ofNat f)), .val (.int (Int32.ofNat cs.length)), .val (.int (ch.toInt8.toInt32)), .unset]) rfl (C0.iL (Y12 3 rfl) rfl (C0.iSk (Y12 4 rfl) (l' := #[.val (.ref t), .val (.int ch), .val (.int (Int32.ofNat f)), .val (.int (Int32.ofNat cs.length)), .val (.int (ch.toInt8.toInt32)), .val (.int (Int32.ofNat f))]) rfl ?_))
  exact J7 (cs.length - f) f s.vm T0  (by omega) (fun z q => q) C0
theorem rm_lix (G : Glob Z a0 EL) (t : Addr) (kb : ClassId) (cs : List Int32) (ch : Int32) (f : Nat) (h : Heap) (O : Ext Z.heap h) (D : Arv Z h t kb .byte (Int32.ofNat cs.length) (bys cs) (.int 0)) (hb : ∀ c ∈ cs, B8 c) (hch : B8 ch) (hf : f ≤ cs.length) (h4 : cs.length ≤ 4000) :
    Met l Z EL true ⟨"java/lang/StringLatin1", "indexOf", "([BIII)I"⟩ jdk_43_method_22_code 4 (some .int) [] ⟨1, 0, 0, 17⟩ #[(.ref t), (.int ch), (.int (Int32.ofNat f)), (.int (Int32.ofNat cs.length))] h [] (fun r h' => ∃ z : Int32, r = some (.int z) ∧ own_fnd ch cs f z ∧ h = h') := by
  have hw := G.hw
  obtain ⟨vo, So, hvo⟩ := G.fo
  refine Met.of (plainFor_of_name pn_4c6174696e31_8) G.ew O ?_
  intro p e s m below meth c T0 C0 S0
  refine Endw.eq (g' := mkF m 0 #[.val (.ref t), .val (.int ch), .val (.int (Int32.ofNat f)), .val (.int (Int32.ofNat cs.length))] []) rfl ?_
  refine C0.iL (Y13 0 rfl) rfl ?_
  refine C0.static (W := 0) (wd hw 74 rfl) (wd hw 75 rfl) (wd hw 76 rfl) (W72 hw) (by decide) (rm_canEncI l Z a0 EL G ch h C0.old hch) (fun _ => rfl) rfl all0 (by decide) (by decide) (by decide) (by decide) (lenOf pd_2849295a rfl) rfl (nb rfl) rfl (Y13 1 rfl) (pc' := 4) rfl ?_
  intro vm1 T1 h1 v1 C1 A1 M1 q1
  obtain ⟨rfl, rfl⟩ := q1
  refine C1.fY (pc' := 9) (Y13 2 rfl) (XT.i0_ne_t (by decide)) (by decide) rfl (C1.iL (Y13 3 rfl) rfl (C1.ic (z := 0) (Y13 4 rfl) rfl ?_))
  refine C1.static (W := 0) (wd hw 77 rfl) (wd hw 78 rfl) (wd hw 80 rfl) (wd hw 79 rfl) (by decide) (rm_max l Z a0 EL G (Int32.ofNat f) (0 : Int32) h C1.old) (fun _ => rfl) rfl all0 (by decide) (by decide) (by decide) (by decide) (lenOf pd_2849492949 rfl) rfl (nb rfl) rfl (Y13 5 rfl) (pc' := 14) rfl ?_
  intro vm2 T2 h2 v2 C2 A2 M2 q2
  rw [(own_max0 (by omega))] at q2
  obtain ⟨rfl, rfl⟩ := q2
  refine C2.iS (Y13 6 rfl) (l' := #[.val (.ref t), .val (.int ch), .val (.int (Int32.ofNat f)), .val (.int (Int32.ofNat cs.length))]) rfl (C2.iL (Y13 7 rfl) rfl (C2.aL (Y13 8 rfl) rfl rfl ?_))
  refine C2.len D (Y13 9 rfl) (pc' := 18) rfl ?_
  refine C2.static (W := 0) (wd hw 81 rfl) (wd hw 82 rfl) (wd hw 83 rfl) (wd hw 79 rfl) (by decide) (rm_min l Z a0 EL G (Int32.ofNat cs.length) (Int32.ofNat cs.length) h C2.old) (fun _ => rfl) rfl all0 (by decide) (by decide) (by decide) (by decide) (lenOf pd_2849492949 rfl) rfl (nb rfl) rfl (Y13 10 rfl) (pc' := 21) rfl ?_
  intro vm3 T3 h3 v3 C3 A3 M3 q3
  rw [(own_minLe (Nat.le_refl _) (by omega))] at q3
  obtain ⟨rfl, rfl⟩ := q3
  refine C3.iS (Y13 11 rfl) (l' := #[.val (.ref t), .val (.int ch), .val (.int (Int32.ofNat f)), .val (.int (Int32.ofNat cs.length))]) rfl (C3.iL (Y13 12 rfl) rfl (C3.iL (Y13 13 rfl) rfl ?_))
  by_cases c4 : (Int32.ofNat f) < (Int32.ofNat cs.length)
  · refine C3.cY (pc' := 29) (Y13 14 rfl) (XT.ii_lt_t c4) (by decide) rfl (C3.aL (Y13 17 rfl) rfl rfl (C3.iL (Y13 18 rfl) rfl (C3.iL (Y13 19 rfl) rfl (C3.iL (Y13 20 rfl) rfl ?_))))
    refine C3.static (W := 0) (wd hw 84 rfl) (wd hw 85 rfl) (wd hw 86 rfl) (W72 hw) (by decide) (rm_ixc l Z a0 EL G t kb cs ch f h C3.old D hb hch hf h4) (fun _ => rfl) rfl all0 (by decide) (by decide) (by decide) (by decide) (lenOf pd_285b424949492949 rfl) rfl (nb rfl) rfl (Y13 21 rfl) (pc' := 36) rfl ?_
    intro vm5 T5 h5 v5 C5 A5 M5 q5
    obtain ⟨z5, rfl, e5, rfl⟩ := q5
    exact C5.retI (t := .int) rfl (by simp) rfl (Y13 22 rfl) (by decide) (by decide) ⟨_, rfl, e5, rfl⟩
  · refine C3.cN (Y13 14 rfl) (XT.ii_lt_f c4) (C3.ic (z := (-1)) (Y13 15 rfl) rfl ?_)
    exact C3.retI (t := .int) rfl (by simp) rfl (Y13 16 rfl) (by decide) (by decide) ⟨_, rfl, own_fndE (by have := mt (own_lt (by omega) (by omega)).mpr c4; omega), rfl⟩
theorem rm_ix2 (G : Glob Z a0 EL) (a t : Addr) (kb : ClassId) (cs : List Int32) (ch : Int32) (f : Nat) (h : Heap) (O : Ext Z.heap h) (S : Str Z h a t kb cs) (hch : B8 ch) (hf : f ≤ cs.length) :
    Met l Z EL true ⟨"java/lang/String", "indexOf", "(II)I"⟩ jdk_42_method_80_code 3 (some .int) [] ⟨2, 0, 0, 32⟩ #[(.ref a), (.int ch), (.int (Int32.ofNat f))] h [] (fun r h' => ∃ z : Int32, r = some (.int z) ∧ own_fnd ch cs f z ∧ h = h') := by
  have hw := G.hw
  obtain ⟨vo, So, hvo⟩ := G.fo
  refine Met.of (plainFor_of_name pn_537472696e67_6) G.ew O ?_
  intro p e s m below meth c T0 C0 S0
  refine Endw.eq (g' := mkF m 0 #[.val (.ref a), .val (.int ch), .val (.int (Int32.ofNat f))] []) rfl ?_
  refine C0.aL (Y14 0 rfl) rfl rfl ?_
  refine C0.virtual (W := 0) (W55 hw) (W56 hw) (fun _ q => notFace_of_selects (args := #[]) (mvT q (W58 hw))) (W58 hw) (W57 hw) (W59 hw) (W10 hw) (by decide) (rm_isLatin1 l Z a0 EL G a h C0.old S.2.1) (fun _ => rfl) rfl S.1 all0 (by decide) (by decide) (by decide) (by decide) (lenOf pd_28295a rfl) rfl (nb rfl) rfl (Y14 1 rfl) (pc' := 4) rfl ?_
  intro vm1 T1 h1 v1 C1 A1 M1 q1
  obtain ⟨rfl, rfl⟩ := q1
  refine C1.fN (Y14 2 rfl) (XT.i0_eq_f (by decide)) (C1.aL (Y14 3 rfl) rfl rfl ?_)
  refine C1.getF (W35 hw) S.2.2.1 (Y14 4 rfl) (pc' := 11) rfl ?_
  intro T2 C2
  refine C2.iL (Y14 5 rfl) rfl (C2.iL (Y14 6 rfl) rfl (C2.aL (Y14 7 rfl) rfl rfl ?_))
  refine C2.virtual (W := 3) (W60 hw) (W61 hw) (fun _ q => notFace_of_selects (args := #[]) (mvT q (W63 hw))) (W63 hw) (W62 hw) (W64 hw) (W10 hw) (by decide) (rm_strLen l Z a0 EL G a t kb cs h C2.old S) (fun _ => rfl) rfl S.1 all0 (by decide) (by decide) (by decide) (by decide) (lenOf pd_282949 rfl) rfl (nb rfl) rfl (Y14 8 rfl) (pc' := 17) rfl ?_
  intro vm3 T3 h3 v3 C3 A3 M3 q3
  obtain ⟨rfl, rfl⟩ := q3
  refine C3.static (W := 0) (wd hw 70 rfl) (wd hw 71 rfl) (wd hw 73 rfl) (W72 hw) (by decide) (rm_lix l Z a0 EL G t kb cs ch f h C3.old S.2.2.2.1 S.2.2.2.2.1 hch hf S.le4) (fun _ => rfl) rfl all0 (by decide) (by decide) (by decide) (by decide) (lenOf pd_285b424949492949 rfl) rfl (nb rfl) rfl (Y14 9 rfl) (pc' := 20) rfl ?_
  intro vm4 T4 h4 v4 C4 A4 M4 q4
  obtain ⟨z4, rfl, e4, rfl⟩ := q4
  refine C4.go (pc' := 36) (Y14 10 rfl) (by decide) rfl ?_
  exact C4.retI (t := .int) rfl (by simp) rfl (Y14 11 rfl) (by decide) (by decide) ⟨_, rfl, e4, rfl⟩
theorem rm_ix1 (G : Glob Z a0 EL) (a t : Addr) (kb : ClassId) (cs : List Int32) (ch : Int32) (h : Heap) (O : Ext Z.heap h) (S : Str Z h a t kb cs) (hch : B8 ch) :
    Met l Z EL true ⟨"java/lang/String", "indexOf", "(I)I"⟩ jdk_42_method_79_code 2 (some .int) [] ⟨3, 0, 0, 46⟩ #[(.ref a), (.int ch)] h [] (fun r h' => ∃ z : Int32, r = some (.int z) ∧ own_fnd ch cs 0 z ∧ h = h') := by
  have hw := G.hw
  obtain ⟨vo, So, hvo⟩ := G.fo
  refine Met.of (plainFor_of_name pn_537472696e67_6) G.ew O ?_
  intro p e s m below meth c T0 C0 S0
  refine Endw.eq (g' := mkF m 0 #[.val (.ref a), .val (.int ch)] []) rfl ?_
  refine C0.aL (Y15 0 rfl) rfl rfl (C0.iL (Y15 1 rfl) rfl (C0.ic (z := 0) (Y15 2 rfl) rfl ?_))
  refine C0.virtual (W := 0) (wd hw 50 rfl) (wd hw 51 rfl) (fun _ q => notFace_of_selects (args := #[]) (mvT q (W53 hw))) (W53 hw) (wd hw 52 rfl) (wd hw 54 rfl) (W10 hw) (by decide) (rm_ix2 l Z a0 EL G a t kb cs ch 0 h C0.old S hch (Nat.zero_le _)) (fun _ => rfl) rfl S.1 all0 (by decide) (by decide) (by decide) (by decide) (lenOf pd_2849492949 rfl) rfl (nb rfl) rfl (Y15 3 rfl) (pc' := 6) rfl ?_
  intro vm1 T1 h1 v1 C1 A1 M1 q1
  obtain ⟨z1, rfl, e1, rfl⟩ := q1
  exact C1.retI (t := .int) rfl (by simp) rfl (Y15 4 rfl) (by decide) (by decide) ⟨_, rfl, e1, rfl⟩
theorem rm_mis (G : Glob Z a0 EL) (t u : Addr) (kb ku : ClassId) (cs ps : List Int32) (f : Nat) (h : Heap) (O : Ext Z.heap h) (D1 : Arv Z h t kb .byte (Int32.ofNat cs.length) (bys cs) (.int 0)) (D2 : Arv Z h u ku .byte (Int32.ofNat ps.length) (bys ps) (.int 0)) (b1 : ∀ c ∈ cs, B8 c) (b2 : ∀ c ∈ ps, B8 c) (hf : f + ps.length ≤ cs.length) (h4 : cs.length ≤ 4000) (h7 : ps.length ≤ 7) :
    Met l Z EL true ⟨"jdk/internal/util/ArraysSupport", "mismatch", "([BI[BII)I"⟩ jdk_48_method_14_code 8 (some .int) [] ⟨0, 0, 0, 0⟩ #[(.ref t), (.int (Int32.ofNat f)), (.ref u), (.int 0), (.int (Int32.ofNat ps.length))] h [] (fun r h' => ∃ z : Int32, r = some (.int z) ∧ ((z = -1 ∧ own_pre ps (cs.drop f) = true) ∨ (¬ z < 0 ∧ own_pre ps (cs.drop f) = false)) ∧ h = h') := by
  obtain ⟨vo, So, hvo⟩ := G.fo
  refine Met.of (plainFor_of_name pn_7570706f7274_11) G.ew O ?_
  intro p e s m below meth c T0 C0 S0
  refine Endw.eq (g' := mkF m 0 #[.val (.ref t), .val (.int (Int32.ofNat f)), .val (.ref u), .val (.int 0), .val (.int (Int32.ofNat ps.length)), .unset, .unset, .unset] []) rfl ?_
  have J70 : ∀ (tt : Nat) (j : Nat) (vm : Vm) (T : State) , (ps.length = j + tt) → (own_pre (ps.drop j) (cs.drop (f + j)) = own_pre ps (cs.drop f)) → Core p l e ⟨0, 0, 0, 0⟩ s m #[(.ref t), (.int (Int32.ofNat f)), (.ref u), (.int 0), (.int (Int32.ofNat ps.length))] below meth c jdk_48_method_14_code 8 (some .int) "mismatch" "jdk/internal/util/ArraysSupport" Z a0 EL true vm T h 0 0 → Endw p e below T (mkF m 70 #[.val (.ref t), .val (.int (Int32.ofNat f)), .val (.ref u), .val (.int 0), .val (.int (Int32.ofNat ps.length)), .val (.int (Int32.ofNat j)), .unset, .unset] []) (Fin s Z EL true (fun r h' => ∃ z : Int32, r = some (.int z) ∧ ((z = -1 ∧ own_pre ps (cs.drop f) = true) ∨ (¬ z < 0 ∧ own_pre ps (cs.drop f) = false)) ∧ h = h') (({ frames := 0, cells := 0, slots := 0, locals := 0 } : Room)).cells (({ frames := 0, cells := 0, slots := 0, locals := 0 } : Room)).slots) := by
    intro tt
    induction tt with
    | zero =>
      intro j vm T hj hD C
      refine C.iLk (Y16 5 rfl) rfl (C.iLk (Y16 6 rfl) rfl (C.cY (pc' := 101) (Y16 7 rfl) (XT.ii_ge_t (fun q => absurd ((own_lt (by omega) (by omega)).mp q) (by omega))) (by decide) rfl (C.ic (z := (-1)) (Y16 23 rfl) rfl ?_)))
      exact C.retI (t := .int) rfl (by simp) rfl (Y16 24 rfl) (by decide) (by decide) ⟨_, rfl, Or.inl ⟨rfl, by rw [← hD, List.drop_eq_nil_of_le (by omega)]; rfl⟩, rfl⟩
    | succ tt ih =>
      intro j vm T hj hD C
      obtain ⟨y0, r0, ec0, lt0, eg0, er0⟩ := (own_at cs (i := f + j) (by omega)).resolve_left (fun q => absurd q.2 (by omega))
      obtain ⟨y1, r1, ec1, lt1, eg1, er1⟩ := (own_at ps (i := j) (by omega)).resolve_left (fun q => absurd q.2 (by omega))
      refine C.iLk (Y16 5 rfl) rfl (C.iLk (Y16 6 rfl) rfl (C.cN (Y16 7 rfl) (XT.ii_ge_f ((own_lt (by omega) (by omega)).mpr (by omega))) (C.aL (Y16 8 rfl) rfl rfl (C.iL (Y16 9 rfl) rfl (C.iLk (Y16 10 rfl) rfl (C.ad (z := ((Int32.ofNat f) + (Int32.ofNat j))) (Y16 11 rfl) rfl ?_))))))
      rw [show ((Int32.ofNat f) + (Int32.ofNat j)) = (Int32.ofNat (f + j)) from own_add _ _]
      refine C.baloadN (j := (f + j)) D1 lt0 (by omega) (v := (.int (own_lo y0))) (by rw [own_bysD cs lt0, eg0]) (Y16 12 rfl) (pc' := 83) rfl ?_
      refine C.aL (Y16 13 rfl) rfl rfl (C.iL (Y16 14 rfl) rfl (C.iLk (Y16 15 rfl) rfl (C.ad (z := ((0 : Int32) + (Int32.ofNat j))) (Y16 16 rfl) rfl ?_)))
      rw [show ((0 : Int32) + (Int32.ofNat j)) = (Int32.ofNat j) from Int32.zero_add _]
      refine C.baloadN (j := j) D2 lt1 (by omega) (v := (.int (own_lo y1))) (by rw [own_bysD ps lt1, eg1]) (Y16 17 rfl) (pc' := 89) rfl ?_
      by_cases c1 : (own_lo y0) = (own_lo y1)
      · refine C.cY (pc' := 95) (Y16 18 rfl) (XT.ii_eq_t c1) (by decide) rfl ?_
        refine Endw.st (T' := T) (g' := (mkF m 98 #[.val (.ref t), .val (.int (Int32.ofNat f)), .val (.ref u), .val (.int 0), .val (.int (Int32.ofNat ps.length)), .val (.int ((Int32.ofNat j) + (1 : Int32))), .unset, .unset] [])) (fun _ k_ => XS.iinc C.here C.hx rfl (C.dec (Y16 21 rfl)) rfl (l' := #[.val (.ref t), .val (.int (Int32.ofNat f)), .val (.ref u), .val (.int 0), .val (.int (Int32.ofNat ps.length)), .val (.int ((Int32.ofNat j) + (1 : Int32))), .unset, .unset]) rfl k_) ?_
        rw [show ((Int32.ofNat j) + (1 : Int32)) = (Int32.ofNat (j + 1)) from own_inc _]
        refine C.go (pc' := 70) (Y16 22 rfl) (by decide) rfl ?_
        exact ih (j + 1) vm T  (by omega) (by rw [← hD, ec1, ec0, own_preS (own_loInj (eg0 ▸ own_getAll lt0 b1) (eg1 ▸ own_getAll lt1 b2) c1), er1, show f + (j + 1) = f + j + 1 from rfl, er0]) C
      · refine C.cN (Y16 18 rfl) (XT.ii_eq_f c1) (C.iLk (Y16 19 rfl) rfl ?_)
        exact C.retI (t := .int) rfl (by simp) rfl (Y16 20 rfl) (by decide) (by decide) ⟨_, rfl, Or.inr ⟨own_nn (by omega), by rw [← hD, ec1, ec0, own_preN (fun e => c1 (congrArg own_lo e))]⟩, rfl⟩
  refine C0.ic (z := 0) (Y16 0 rfl) rfl (C0.iSk (Y16 1 rfl) (l' := #[.val (.ref t), .val (.int (Int32.ofNat f)), .val (.ref u), .val (.int 0), .val (.int (Int32.ofNat ps.length)), .val (.int 0), .unset, .unset]) rfl (C0.iLk (Y16 2 rfl) rfl (C0.bi (z := 7) (Y16 3 rfl) rfl (C0.cY (pc' := 70) (Y16 4 rfl) (XT.ii_le_t (own_le7 h7)) (by decide) rfl ?_))))
  exact J70 ps.length 0 s.vm T0  (Nat.zero_add _).symm rfl C0
theorem rm_sw2 (G : Glob Z a0 EL) (a t : Addr) (kb : ClassId) (cs : List Int32) (b u : Addr) (ku : ClassId) (ps : List Int32) (f : Nat) (h : Heap) (O : Ext Z.heap h) (S : Str Z h a t kb cs) (U : Str Z h b u ku ps) (hf : f ≤ cs.length) (h7 : ps.length ≤ 7) :
    Met l Z EL true ⟨"java/lang/String", "startsWith", "(Ljava/lang/String;I)Z"⟩ jdk_42_method_75_code 8 (some .boolean) [] ⟨2, 0, 0, 27⟩ #[(.ref a), (.ref b), (.int (Int32.ofNat f))] h [] (fun r h' => r = some (.int (own_sw ps (cs.drop f))) ∧ h = h') := by
  have hw := G.hw
  obtain ⟨vo, So, hvo⟩ := G.fo
  refine Met.of (plainFor_of_name pn_537472696e67_6) G.ew O ?_
  intro p e s m below meth c T0 C0 S0
  refine Endw.eq (g' := mkF m 0 #[.val (.ref a), .val (.ref b), .val (.int (Int32.ofNat f)), .unset, .unset, .unset, .unset, .unset] []) rfl ?_
  refine C0.iL (Y17 0 rfl) rfl (C0.fN (Y17 1 rfl) (XT.i0_lt_f (own_nn (by have := S.le4; omega))) (C0.iL (Y17 2 rfl) rfl (C0.aL (Y17 3 rfl) rfl rfl ?_)))
  refine C0.virtual (W := 1) (W60 hw) (W61 hw) (fun _ q => notFace_of_selects (args := #[]) (mvT q (W63 hw))) (W63 hw) (W62 hw) (W64 hw) (W10 hw) (by decide) (rm_strLen l Z a0 EL G a t kb cs h C0.old S) (fun _ => rfl) rfl S.1 all0 (by decide) (by decide) (by decide) (by decide) (lenOf pd_282949 rfl) rfl (nb rfl) rfl (Y17 4 rfl) (pc' := 9) rfl ?_
  intro vm1 T1 h1 v1 C1 A1 M1 q1
  obtain ⟨rfl, rfl⟩ := q1
  refine C1.aL (Y17 5 rfl) rfl rfl ?_
  refine C1.virtual (W := 2) (W60 hw) (W61 hw) (fun _ q => notFace_of_selects (args := #[]) (mvT q (W63 hw))) (W63 hw) (W62 hw) (W64 hw) (W10 hw) (by decide) (rm_strLen l Z a0 EL G b u ku ps h C1.old U) (fun _ => rfl) rfl U.1 all0 (by decide) (by decide) (by decide) (by decide) (lenOf pd_282949 rfl) rfl (nb rfl) rfl (Y17 6 rfl) (pc' := 13) rfl ?_
  intro vm2 T2 h2 v2 C2 A2 M2 q2
  obtain ⟨rfl, rfl⟩ := q2
  refine C2.sb (z := ((Int32.ofNat cs.length) - (Int32.ofNat ps.length))) (Y17 7 rfl) rfl ?_
  by_cases c3 : ((Int32.ofNat cs.length) - (Int32.ofNat ps.length)) < (Int32.ofNat f)
  · refine C2.cN (Y17 8 rfl) (XT.ii_le_f c3) (C2.ic (z := 0) (Y17 9 rfl) rfl ?_)
    exact C2.retI (t := .boolean) rfl (by simp) rfl (Y17 10 rfl) (by decide) (by decide) ⟨by rw [own_sw, own_preLen (by have h4 := S.le4; have := (own_subLt h4 (by omega) (by omega)).mp c3; rw [List.length_drop]; omega)] <;> rfl, rfl⟩
  · refine C2.cY (pc' := 19) (Y17 8 rfl) (XT.ii_le_t c3) (by decide) rfl ?_
    have hle : f + ps.length ≤ cs.length := by have h4 := S.le4; have := mt (own_subLt h4 (by omega) (by omega)).mpr c3; omega
    refine C2.aL (Y17 11 rfl) rfl rfl ?_
    refine C2.getF (W35 hw) S.2.2.1 (Y17 12 rfl) (pc' := 23) rfl ?_
    intro T4 C4
    refine C4.aS (Y17 13 rfl) rfl (l' := #[.val (.ref a), .val (.ref b), .val (.int (Int32.ofNat f)), .val (.ref t), .unset, .unset, .unset, .unset]) rfl (C4.aL (Y17 14 rfl) rfl rfl ?_)
    refine C4.getF (W35 hw) U.2.2.1 (Y17 15 rfl) (pc' := 28) rfl ?_
    intro T5 C5
    refine C5.aSk (Y17 16 rfl) rfl (l' := #[.val (.ref a), .val (.ref b), .val (.int (Int32.ofNat f)), .val (.ref t), .val (.ref u), .unset, .unset, .unset]) rfl (C5.ic (z := 0) (Y17 17 rfl) rfl (C5.iSk (Y17 18 rfl) (l' := #[.val (.ref a), .val (.ref b), .val (.int (Int32.ofNat f)), .val (.ref t), .val (.ref u), .val (.int 0), .unset, .unset]) rfl (C5.aLk (Y17 19 rfl) rfl rfl ?_)))
    refine C5.len U.2.2.2.1 (Y17 20 rfl) (pc' := 36) rfl ?_
    refine C5.iSk (Y17 21 rfl) (l' := #[.val (.ref a), .val (.ref b), .val (.int (Int32.ofNat f)), .val (.ref t), .val (.ref u), .val (.int 0), .val (.int (Int32.ofNat ps.length)), .unset]) rfl (C5.aL (Y17 22 rfl) rfl rfl ?_)
    refine C5.virtual (W := 0) (wd hw 65 rfl) (wd hw 66 rfl) (fun _ q => notFace_of_selects (args := #[]) (mvT q (W68 hw))) (W68 hw) (wd hw 67 rfl) (wd hw 69 rfl) (W10 hw) (by decide) (rm_coder l Z a0 EL G a h C5.old S.2.1) (fun _ => rfl) rfl S.1 all0 (by decide) (by decide) (by decide) (by decide) (lenOf pd_282942 rfl) rfl (nb rfl) rfl (Y17 23 rfl) (pc' := 42) rfl ?_
    intro vm6 T6 h6 v6 C6 A6 M6 q6
    obtain ⟨rfl, rfl⟩ := q6
    refine C6.iSk (Y17 24 rfl) (l' := #[.val (.ref a), .val (.ref b), .val (.int (Int32.ofNat f)), .val (.ref t), .val (.ref u), .val (.int 0), .val (.int (Int32.ofNat ps.length)), .val (.int 0)]) rfl (C6.iLk (Y17 25 rfl) rfl (C6.aL (Y17 26 rfl) rfl rfl ?_))
    refine C6.virtual (W := 1) (wd hw 65 rfl) (wd hw 66 rfl) (fun _ q => notFace_of_selects (args := #[]) (mvT q (W68 hw))) (W68 hw) (wd hw 67 rfl) (wd hw 69 rfl) (W10 hw) (by decide) (rm_coder l Z a0 EL G b h C6.old U.2.1) (fun _ => rfl) rfl U.1 all0 (by decide) (by decide) (by decide) (by decide) (lenOf pd_282942 rfl) rfl (nb rfl) rfl (Y17 27 rfl) (pc' := 50) rfl ?_
    intro vm7 T7 h7 v7 C7 A7 M7 q7
    obtain ⟨rfl, rfl⟩ := q7
    refine C7.cN (Y17 28 rfl) (XT.ii_ne_f (by decide)) (C7.iLk (Y17 29 rfl) rfl (C7.ic (z := 1) (Y17 30 rfl) rfl (C7.cY (pc' := 63) (Y17 31 rfl) (XT.ii_ne_t (by decide)) (by decide) rfl (C7.aL (Y17 32 rfl) rfl rfl (C7.iL (Y17 33 rfl) rfl (C7.aLk (Y17 34 rfl) rfl rfl (C7.ic (z := 0) (Y17 35 rfl) rfl (C7.iLk (Y17 36 rfl) rfl ?_))))))))
    refine C7.static (W := 0) (wd hw 306 rfl) (wd hw 307 rfl) (wd hw 309 rfl) (wd hw 308 rfl) (by decide) (rm_mis l Z a0 EL G t u kb ku cs ps f h C7.old S.2.2.2.1 U.2.2.2.1 S.2.2.2.2.1 U.2.2.2.2.1 hle S.le4 h7) (fun _ => rfl) rfl all0 (by decide) (by decide) (by decide) (by decide) (lenOf pd_285b42495b4249492949 rfl) rfl (nb rfl) rfl (Y17 37 rfl) (pc' := 73) rfl ?_
    intro vm8 T8 h8 v8 C8 A8 M8 q8
    obtain ⟨z8, rfl, e8, rfl⟩ := q8
    rcases e8 with ⟨ez, ep⟩ | ⟨ez, ep⟩
    · refine C8.fN (Y17 38 rfl) (XT.i0_ge_f (by rw [ez]; decide)) (C8.ic (z := 1) (Y17 39 rfl) rfl (C8.go (pc' := 81) (Y17 40 rfl) (by decide) rfl ?_))
      exact C8.retI (t := .boolean) rfl (by simp) rfl (Y17 42 rfl) (by decide) (by decide) ⟨by rw [own_sw, ep] <;> rfl, rfl⟩
    · refine C8.fY (pc' := 80) (Y17 38 rfl) (XT.i0_ge_t ez) (by decide) rfl (C8.ic (z := 0) (Y17 41 rfl) rfl ?_)
      exact C8.retI (t := .boolean) rfl (by simp) rfl (Y17 42 rfl) (by decide) (by decide) ⟨by rw [own_sw, ep] <;> rfl, rfl⟩
theorem rm_sw1 (G : Glob Z a0 EL) (a t : Addr) (kb : ClassId) (cs : List Int32) (b u : Addr) (ku : ClassId) (ps : List Int32) (h : Heap) (O : Ext Z.heap h) (S : Str Z h a t kb cs) (U : Str Z h b u ku ps) (h7 : ps.length ≤ 7) :
    Met l Z EL true ⟨"java/lang/String", "startsWith", "(Ljava/lang/String;)Z"⟩ jdk_42_method_76_code 2 (some .boolean) [] ⟨3, 0, 0, 46⟩ #[(.ref a), (.ref b)] h [] (fun r h' => r = some (.int (own_sw ps (cs.drop 0))) ∧ h = h') := by
  have hw := G.hw
  obtain ⟨vo, So, hvo⟩ := G.fo
  refine Met.of (plainFor_of_name pn_537472696e67_6) G.ew O ?_
  intro p e s m below meth c T0 C0 S0
  refine Endw.eq (g' := mkF m 0 #[.val (.ref a), .val (.ref b)] []) rfl ?_
  refine C0.aL (Y18 0 rfl) rfl rfl (C0.aL (Y18 1 rfl) rfl rfl (C0.ic (z := 0) (Y18 2 rfl) rfl ?_))
  refine C0.virtual (W := 0) (wd hw 200 rfl) (W109 hw) (fun _ q => notFace_of_selects (args := #[]) (mvT q (W111 hw))) (W111 hw) (W110 hw) (W112 hw) (W10 hw) (by decide) (rm_sw2 l Z a0 EL G a t kb cs b u ku ps 0 h C0.old S U (Nat.zero_le _) h7) (fun _ => rfl) rfl S.1 all0 (by decide) (by decide) (by decide) (by decide) (lenOf pd_35 rfl) rfl (nb rfl) rfl (Y18 3 rfl) (pc' := 6) rfl ?_
  intro vm1 T1 h1 v1 C1 A1 M1 q1
  obtain ⟨rfl, rfl⟩ := q1
  exact C1.retI (t := .boolean) rfl (by simp) (own_swN _ _) (Y18 4 rfl) (by decide) (by decide) ⟨rfl, rfl⟩
theorem rm_pft (G : Glob Z a0 EL) (i j n : Nat) (vv : Value) (hvv : vv.isRef = true) (h : Heap) (O : Ext Z.heap h) (hij : i ≤ j) (hjn : j ≤ n) (h4 : n ≤ 4000) :
    Met l Z EL true ⟨"jdk/internal/util/Preconditions", "checkFromToIndex", "(IIILjava/util/function/BiFunction;)I"⟩ jdk_41_method_12_code 4 (some .int) [] ⟨0, 0, 0, 0⟩ #[(.int (Int32.ofNat i)), (.int (Int32.ofNat j)), (.int (Int32.ofNat n)), vv] h [] (fun r h' => r = some (.int (Int32.ofNat i)) ∧ h = h') := by
  obtain ⟨vo, So, hvo⟩ := G.fo
  refine Met.of (plainFor_of_name pn_6974696f6e73_12) G.ew O ?_
  intro p e s m below meth c T0 C0 S0
  refine Endw.eq (g' := mkF m 0 #[.val (.int (Int32.ofNat i)), .val (.int (Int32.ofNat j)), .val (.int (Int32.ofNat n)), .val vv] []) (by first | rfl | (simp [entryFrame, mkF, argsToLocals, own_cI, own_cR, own_cN, own_cJ, own_cD, maxLocals, XT.cat1 hvv]; done)) ?_
  refine C0.iL (Y19 0 rfl) rfl (C0.fN (Y19 1 rfl) (XT.i0_lt_f (own_nn (by omega))) (C0.iL (Y19 2 rfl) rfl (C0.iL (Y19 3 rfl) rfl (C0.cN (Y19 4 rfl) (XT.ii_gt_f (fun q => absurd ((own_lt (by omega) (by omega)).mp q) (by omega))) (C0.iL (Y19 5 rfl) rfl (C0.iL (Y19 6 rfl) rfl (C0.cY (pc' := 22) (Y19 7 rfl) (XT.ii_le_t (fun q => absurd ((own_lt (by omega) (by omega)).mp q) (by omega))) (by decide) rfl (C0.iL (Y19 8 rfl) rfl ?_))))))))
  exact C0.retI (t := .int) rfl (by simp) rfl (Y19 9 rfl) (by decide) (by decide) ⟨rfl, rfl⟩
theorem rm_cbe (G : Glob Z a0 EL) (i j n : Nat) (h : Heap) (O : Ext Z.heap h) (hij : i ≤ j) (hjn : j ≤ n) (h4 : n ≤ 4000) :
    Met l Z EL true ⟨"java/lang/String", "checkBoundsBeginEnd", "(III)V"⟩ jdk_42_method_158_code 3 none [] ⟨1, 0, 0, 15⟩ #[(.int (Int32.ofNat i)), (.int (Int32.ofNat j)), (.int (Int32.ofNat n))] h [] (fun r h' => r = none ∧ h = h') := by
  have hw := G.hw
  obtain ⟨vf, Sf, hvf⟩ := G.fm
  obtain ⟨vo, So, hvo⟩ := G.fo
  refine Met.of (plainFor_of_name pn_537472696e67_6) G.ew O ?_
  intro p e s m below meth c T0 C0 S0
  refine Endw.eq (g' := mkF m 0 #[.val (.int (Int32.ofNat i)), .val (.int (Int32.ofNat j)), .val (.int (Int32.ofNat n))] []) rfl ?_
  refine C0.iL (Y20 0 rfl) rfl (C0.iL (Y20 1 rfl) rfl (C0.iL (Y20 2 rfl) rfl ?_))
  refine C0.getS (wd hw 102 rfl) Sf (Y20 3 rfl) (pc' := 6) rfl ?_
  intro T1 C1
  refine C1.static (W := 0) (wd hw 123 rfl) (wd hw 124 rfl) (wd hw 125 rfl) (wd hw 103 rfl) (by decide) (rm_pft l Z a0 EL G i j n vf hvf h C1.old hij hjn h4) (fun _ => rfl) rfl all0 (by decide) (by decide) (by decide) (by decide) (lenOf pd_20 rfl) rfl (nb rfl) rfl (Y20 4 rfl) (pc' := 9) rfl ?_
  intro vm2 T2 h2 v2 C2 A2 M2 q2
  obtain ⟨rfl, rfl⟩ := q2
  refine Endw.st (T' := T2) (g' := (mkF m 10 #[.val (.int (Int32.ofNat i)), .val (.int (Int32.ofNat j)), .val (.int (Int32.ofNat n))] [])) (fun _ k_ => XS.pop C2.here C2.hx rfl (C2.dec (Y20 5 rfl)) rfl rfl k_) ?_
  exact C2.retV (Y20 6 rfl) (by decide) (by decide) ⟨rfl, rfl⟩
theorem rm_crb (G : Glob Z a0 EL) (t : Addr) (kb : ClassId) (cs : List Int32) (i j : Nat) (h : Heap) (O : Ext Z.heap h) (D : Arv Z h t kb .byte (Int32.ofNat cs.length) (bys cs) (.int 0)) (hij : i ≤ j) (hjn : j ≤ cs.length) (h8 : cs.length ≤ 8) :
    Met l Z EL true ⟨"java/util/Arrays", "copyOfRangeByte", "([BII)[B"⟩ jdk_65_method_133_code 5 (some (.array .byte)) [] ⟨1, 1, 8, 18⟩ #[(.ref t), (.int (Int32.ofNat i)), (.int (Int32.ofNat j))] h [] (fun r h' => ∃ (d : Addr) (kd : ClassId), r = some (.ref d) ∧ Keep h h' [] ∧ h.size ≤ d ∧ Z.heap.size ≤ d ∧ Arv Z h' d kd .byte (Int32.ofNat (own_sl cs i j).length) (bys (own_sl cs i j)) (.int 0)) := by
  have hw := G.hw
  obtain ⟨vo, So, hvo⟩ := G.fo
  refine Met.of (plainFor_of_name pn_417272617973_10) G.ew O ?_
  intro p e s m below meth c T0 C0 S0
  refine Endw.eq (g' := mkF m 0 #[.val (.ref t), .val (.int (Int32.ofNat i)), .val (.int (Int32.ofNat j)), .unset, .unset] []) rfl ?_
  refine C0.iL (Y21 0 rfl) rfl (C0.iL (Y21 1 rfl) rfl ?_)
  refine C0.static (W := 0) (wd hw 137 rfl) (wd hw 138 rfl) (wd hw 139 rfl) (W132 hw) (by decide) (rm_checkLen l Z a0 EL G (Int32.ofNat i) (Int32.ofNat j) (fun q => absurd ((own_lt (by omega) (by omega)).mp q) (by omega)) h C0.old) (fun _ => rfl) rfl all0 (by decide) (by decide) (by decide) (by decide) (lenOf pd_2849492956 rfl) rfl (nb rfl) rfl (Y21 2 rfl) (pc' := 5) rfl ?_
  intro vm1 T1 h1 v1 C1 A1 M1 q1
  obtain ⟨rfl, rfl⟩ := q1
  refine C1.iL (Y21 3 rfl) rfl (C1.iL (Y21 4 rfl) rfl (C1.sb (z := ((Int32.ofNat j) - (Int32.ofNat i))) (Y21 5 rfl) rfl ?_))
  rw [show ((Int32.ofNat j) - (Int32.ofNat i)) = (Int32.ofNat (j - i)) from own_sub hij]
  refine C1.iS (Y21 6 rfl) (l' := #[.val (.ref t), .val (.int (Int32.ofNat i)), .val (.int (Int32.ofNat j)), .val (.int (Int32.ofNat (j - i))), .unset]) rfl (C1.iL (Y21 7 rfl) rfl ?_)
  refine C1.newA (aty := .byte) (z := (Int32.ofNat (j - i))) (cap := 8) (vs := []) (W26 hw) (Y21 8 rfl) (pc' := 12) rfl (own_nn (by omega)) (by rw [own_nc (by omega)]; omega) (by decide) (by decide) (by decide) rfl ?_
  intro T2 h2 a2 kA2 C2 K2 A2 ge2 zg2 V2 S2
  refine C2.aSk (Y21 9 rfl) rfl (l' := #[.val (.ref t), .val (.int (Int32.ofNat i)), .val (.int (Int32.ofNat j)), .val (.int (Int32.ofNat (j - i))), .val (.ref a2)]) rfl (C2.aL (Y21 10 rfl) rfl rfl (C2.iL (Y21 11 rfl) rfl (C2.aLk (Y21 12 rfl) rfl rfl (C2.ic (z := 0) (Y21 13 rfl) rfl (C2.aL (Y21 14 rfl) rfl rfl ?_)))))
  have f3 := (D.keep K2 nin0)
  refine C2.len f3 (Y21 15 rfl) (pc' := 21) rfl ?_
  refine C2.iL (Y21 16 rfl) rfl (C2.sb (z := ((Int32.ofNat cs.length) - (Int32.ofNat i))) (Y21 17 rfl) rfl ?_)
  rw [show ((Int32.ofNat cs.length) - (Int32.ofNat i)) = (Int32.ofNat (cs.length - i)) from own_sub (by omega)]
  refine C2.iL (Y21 18 rfl) rfl ?_
  refine C2.static (W := 4) (wd hw 140 rfl) (wd hw 82 rfl) (wd hw 83 rfl) (wd hw 79 rfl) (by decide) (rm_min l Z a0 EL G (Int32.ofNat (cs.length - i)) (Int32.ofNat (j - i)) h2 C2.old) (fun _ => rfl) rfl all0 (by decide) (by decide) (by decide) (by decide) (lenOf pd_2849492949 rfl) rfl (nb rfl) rfl (Y21 19 rfl) (pc' := 27) rfl ?_
  intro vm4 T4 h4 v4 C4 A4 M4 q4
  rw [(own_minLe (by omega) (by omega))] at q4
  obtain ⟨rfl, rfl⟩ := q4
  have f6 := (A4.safe V2.lt S2)
  refine C4.acopySl (cs := cs) (i := i) (j := j) (W := 0) (wd hw 141 rfl) (wd hw 144 rfl) (wd hw 142 rfl) (wd hw 143 rfl) f3 V2 hij hjn (by omega) zg2 f6 rfl (Y21 20 rfl) (pc' := 30) rfl (by decide) (nb rfl) (by decide) ?_
  intro T5 h5 C5 K5 A5 V5
  refine C5.aLk (Y21 21 rfl) rfl rfl ?_
  have KK7 := (kT (kT (kR h []) K2 all0) K5 (allS (Or.inr ge2) all0))
  exact C5.retA (t := (.array .byte)) rfl rfl rfl rfl (Y21 22 rfl) (by decide) (by decide) ⟨a2, kA2, rfl, KK7, ge2, zg2, V5⟩
theorem rm_cr (G : Glob Z a0 EL) (t : Addr) (kb : ClassId) (cs : List Int32) (i j : Nat) (h : Heap) (O : Ext Z.heap h) (D : Arv Z h t kb .byte (Int32.ofNat cs.length) (bys cs) (.int 0)) (hij : i ≤ j) (hjn : j ≤ cs.length) (h8 : cs.length ≤ 8) (hne : ¬ (i = 0 ∧ j = cs.length)) :
    Met l Z EL true ⟨"java/util/Arrays", "copyOfRange", "([BII)[B"⟩ jdk_65_method_132_code 3 (some (.array .byte)) [] ⟨2, 1, 8, 34⟩ #[(.ref t), (.int (Int32.ofNat i)), (.int (Int32.ofNat j))] h [] (fun r h' => ∃ (d : Addr) (kd : ClassId), r = some (.ref d) ∧ Keep h h' [] ∧ h.size ≤ d ∧ Z.heap.size ≤ d ∧ Arv Z h' d kd .byte (Int32.ofNat (own_sl cs i j).length) (bys (own_sl cs i j)) (.int 0)) := by
  have hw := G.hw
  obtain ⟨vo, So, hvo⟩ := G.fo
  refine Met.of (plainFor_of_name pn_417272617973_10) G.ew O ?_
  intro p e s m below meth c T0 C0 S0
  refine Endw.eq (g' := mkF m 0 #[.val (.ref t), .val (.int (Int32.ofNat i)), .val (.int (Int32.ofNat j))] []) rfl ?_
  refine C0.iL (Y22 0 rfl) rfl ?_
  by_cases c1 : (Int32.ofNat i) = (0 : Int32)
  · refine C0.fN (Y22 1 rfl) (XT.i0_ne_f c1) (C0.iL (Y22 2 rfl) rfl (C0.aL (Y22 3 rfl) rfl rfl ?_))
    refine C0.len D (Y22 4 rfl) (pc' := 7) rfl ?_
    refine C0.cN (Y22 5 rfl) (XT.ii_eq_f (fun q => hne ⟨(own_ieq (b := 0) (by omega) (by omega)).mp c1, (own_ieq (by omega) (by omega)).mp q⟩)) (C0.aL (Y22 6 rfl) rfl rfl (C0.iL (Y22 7 rfl) rfl (C0.iL (Y22 8 rfl) rfl ?_)))
    refine C0.static (W := 0) (wd hw 134 rfl) (wd hw 135 rfl) (wd hw 136 rfl) (W132 hw) (by decide) (rm_crb l Z a0 EL G t kb cs i j h C0.old D hij hjn h8 ) (fun _ => rfl) rfl all0 (by decide) (by decide) (by decide) (by decide) (lenOf pd_285b424949295b42 rfl) rfl (nb rfl) rfl (Y22 9 rfl) (pc' := 16) rfl ?_
    intro vm2 T2 h2 v2 C2 A2 M2 q2
    obtain ⟨d2, kd2, rfl, K2, ge2, zg2, V2⟩ := q2
    exact C2.retA (t := (.array .byte)) rfl rfl rfl rfl (Y22 10 rfl) (by decide) (by decide) ⟨d2, kd2, rfl, K2, ge2, zg2, V2⟩
  · refine C0.fY (pc' := 10) (Y22 1 rfl) (XT.i0_ne_t c1) (by decide) rfl (C0.aL (Y22 6 rfl) rfl rfl (C0.iL (Y22 7 rfl) rfl (C0.iL (Y22 8 rfl) rfl ?_)))
    refine C0.static (W := 0) (wd hw 134 rfl) (wd hw 135 rfl) (wd hw 136 rfl) (W132 hw) (by decide) (rm_crb l Z a0 EL G t kb cs i j h C0.old D hij hjn h8 ) (fun _ => rfl) rfl all0 (by decide) (by decide) (by decide) (by decide) (lenOf pd_285b424949295b42 rfl) rfl (nb rfl) rfl (Y22 9 rfl) (pc' := 16) rfl ?_
    intro vm3 T3 h3 v3 C3 A3 M3 q3
    obtain ⟨d3, kd3, rfl, K3, ge3, zg3, V3⟩ := q3
    exact C3.retA (t := (.array .byte)) rfl rfl rfl rfl (Y22 10 rfl) (by decide) (by decide) ⟨d3, kd3, rfl, K3, ge3, zg3, V3⟩
theorem rm_StrInitBB (G : Glob Z a0 EL) (a : Addr) (v0 : Value) (hv0 : v0.isRef = true) (i1 : Int32) (hn1 : narrow .byte (.int i1) = .int i1) (hf1 : fits .byte (.int i1) = true) (h : Heap) (O : Ext Z.heap h) (E0 : Exa Z h a "java/lang/String") (F0 : Fld Z h a "java/lang/String" "coder" "B" (.int 0)) (F1 : Fld Z h a "java/lang/String" "value" "[B" .null) (zg0 : Z.heap.size ≤ a) :
    Met l Z EL true ⟨"java/lang/String", "<init>", "([BB)V"⟩ jdk_42_method_151_code 3 none [] ⟨1, 0, 0, 12⟩ #[(.ref a), v0, (.int i1)] h [a] (fun r h' => r = none ∧ Keep h h' [a] ∧ Exa Z h' a "java/lang/String" ∧ Fld Z h' a "java/lang/String" "coder" "B" (.int i1) ∧ Fld Z h' a "java/lang/String" "value" "[B" v0) := by
  have hw := G.hw
  obtain ⟨vo, So, hvo⟩ := G.fo
  refine Met.of (plainFor_of_name pn_537472696e67_6) G.ew O ?_
  intro p e s m below meth c T0 C0 S0
  refine Endw.eq (g' := mkF m 0 #[.val (.ref a), .val v0, .val (.int i1)] []) (by first | rfl | (simp [entryFrame, mkF, argsToLocals, own_cI, own_cR, own_cN, own_cJ, own_cD, maxLocals, XT.cat1 hv0]; done)) ?_
  refine C0.aL (Y23 0 rfl) rfl rfl ?_
  refine C0.initO (wd hw 18 rfl) (W19 hw) (W20 hw) rfl (Y23 1 rfl) (pc' := 4) rfl (by decide) (W := 0) (nb rfl) (by decide) ?_
  intro T1 C1
  refine C1.aL (Y23 2 rfl) rfl rfl (C1.aL (Y23 3 rfl) rfl hv0 ?_)
  refine C1.putF (v := v0) (W35 hw) F1 E0 (Or.inr ⟨(W36 hw), rfl, rfl⟩) (W9 hw) (ty := (.array .byte)) (by decide) (own_nar_ref hv0) (own_fits_ref hv0) zg0 (S0 a (by simp)) (Y23 4 rfl) (pc' := 9) rfl ?_
  intro T2 h2 C2 K2 A2 Wr2
  have f3 := F1.same Wr2
  have f4 := F0.other Wr2 (Or.inr (slot_ne (Or.inr (W34 hw)) (Or.inr (W36 hw)) (by decide) (t := .byte) (t' := (.array .byte)) (by decide) (by decide)))
  refine C2.aL (Y23 5 rfl) rfl rfl (C2.iL (Y23 6 rfl) rfl ?_)
  have f5 := (E0.keep K2)
  have f7 := (A2.safe E0.lt (S0 a (by simp)))
  refine C2.putF (v := (.int i1)) (wd hw 33 rfl) f4 f5 (Or.inr ⟨(W34 hw), rfl, rfl⟩) (W9 hw) (ty := .byte) (by decide) hn1 hf1 zg0 f7 (Y23 7 rfl) (pc' := 14) rfl ?_
  intro T6 h6 C6 K6 A6 Wr6
  have f8 := f4.same Wr6
  have f9 := f3.other Wr6 (Or.inr (slot_ne (Or.inr (W36 hw)) (Or.inr (W34 hw)) (by decide) (t := (.array .byte)) (t' := .byte) (by decide) (by decide)))
  have KK10 := (kT (kT (kR h [a]) K2 (allS m0 all0)) K6 (allS m0 all0))
  have f11 := (f5.keep K6)
  exact C6.retV (Y23 8 rfl) (by decide) (by decide) ⟨rfl, KK10, f11, f8, f9⟩
theorem rm_ns (G : Glob Z a0 EL) (t : Addr) (kb : ClassId) (cs : List Int32) (i j : Nat) (h : Heap) (O : Ext Z.heap h) (D : Arv Z h t kb .byte (Int32.ofNat cs.length) (bys cs) (.int 0)) (hij : i ≤ j) (hjn : j ≤ cs.length) (h8 : cs.length ≤ 8) (hne : ¬ (i = 0 ∧ j = cs.length)) (hlt : i < j) (hb : ∀ c ∈ cs, B8 c) :
    Met l Z EL true ⟨"java/lang/StringLatin1", "newString", "([BII)Ljava/lang/String;"⟩ jdk_43_method_47_code 3 (some (.object "java/lang/String")) [] ⟨3, 2, 12, 50⟩ #[(.ref t), (.int (Int32.ofNat i)), (.int (Int32.ofNat (j - i)))] h [] (fun r h' => ∃ (x d : Addr) (kd : ClassId), r = some (.ref x) ∧ Keep h h' [] ∧ Str Z h' x d kd (own_sl cs i j)) := by
  have hw := G.hw
  obtain ⟨vo, So, hvo⟩ := G.fo
  refine Met.of (plainFor_of_name pn_4c6174696e31_8) G.ew O ?_
  intro p e s m below meth c T0 C0 S0
  refine Endw.eq (g' := mkF m 0 #[.val (.ref t), .val (.int (Int32.ofNat i)), .val (.int (Int32.ofNat (j - i)))] []) rfl ?_
  refine C0.iL (Y24 0 rfl) rfl (C0.fY (pc' := 7) (Y24 1 rfl) (XT.i0_ne_t (own_n0 (by omega) (by omega))) (by decide) rfl ?_)
  refine C0.new (wd hw 129 rfl) (W9 hw) (W10 hw) (Y24 4 rfl) (pc' := 10) rfl (by decide) (by decide) ?_
  intro T1 h1 a1 C1 K1 A1 ge1 zg1 E1 D1 S1
  refine C1.du (Y24 5 rfl) rfl (C1.aL (Y24 6 rfl) rfl rfl (C1.iL (Y24 7 rfl) rfl (C1.iL (Y24 8 rfl) rfl (C1.iL (Y24 9 rfl) rfl (C1.ad (z := ((Int32.ofNat i) + (Int32.ofNat (j - i)))) (Y24 10 rfl) rfl ?_)))))
  rw [show ((Int32.ofNat i) + (Int32.ofNat (j - i))) = (Int32.ofNat j) from by rw [own_add, Nat.add_sub_cancel' hij]]
  have f2 := (D.keep K1 nin0)
  refine C1.static (W := 2) (wd hw 130 rfl) (wd hw 131 rfl) (wd hw 133 rfl) (W132 hw) (by decide) (rm_cr l Z a0 EL G t kb cs i j h1 C1.old f2 hij hjn h8 hne) (fun _ => rfl) rfl all0 (by decide) (by decide) (by decide) (by decide) (lenOf pd_285b424949295b42 rfl) rfl (nb rfl) rfl (Y24 11 rfl) (pc' := 19) rfl ?_
  intro vm3 T3 h3 v3 C3 A3 M3 q3
  obtain ⟨d3, kd3, rfl, K3, ge3, zg3, V3⟩ := q3
  refine C3.ic (z := 0) (Y24 12 rfl) rfl ?_
  have f4 : Fld Z h1 a1 "java/lang/String" "coder" "B" (.int 0) := D1 (Or.inr (W34 hw)) (ty := .byte) (by decide)
  have f5 := (f4.keep K3 nin0)
  have f6 : Fld Z h1 a1 "java/lang/String" "value" "[B" .null := D1 (Or.inr (W36 hw)) (ty := (.array .byte)) (by decide)
  have f7 := (f6.keep K3 nin0)
  have f8 := (E1.keep K3)
  have f10 := (A3.safe E1.lt S1)
  refine C3.special (y := ⟨"java/lang/String", "<init>", "([BB)V"⟩) (W := 1) rfl (wd hw 145 rfl) (wd hw 146 rfl) (wd hw 147 rfl) (W10 hw) (by decide) (rm_StrInitBB l Z a0 EL G a1 (.ref d3) rfl (0 : Int32) rfl rfl h3 C3.old f8 f5 f7 zg1) (fun _ => rfl) rfl (allS ⟨(lL E1.lt K3.1), f10⟩ all0) (by decide) (by decide) (by decide) (by decide) (lenOf pd_285b42422956 rfl) rfl (nb rfl) rfl (Y24 13 rfl) (pc' := 23) rfl ?_
  intro vm9 T9 h9 v9 C9 A9 M9 q9
  obtain ⟨rfl, K9, E9, F9_0, F9_1⟩ := q9
  have ne11 : d3 ≠ a1 := (Ne.symm (nL (lL E1.lt ge3)))
  have f12 := (V3.keep K9 (ninS ne11 nin0))
  have KK13 := (kT (kT (kT (kR h []) K1 all0) K3 all0) K9 (allS (Or.inr ge1) all0))
  exact C9.retA (t := (.object "java/lang/String")) rfl rfl rfl rfl (Y24 14 rfl) (by decide) (by decide) ⟨a1, d3, kd3, rfl, KK13, ⟨E9, F9_0, F9_1, f12, own_allSl i j hb, by rw [own_sl_len hjn]; omega⟩⟩
theorem rm_ns0 (G : Glob Z a0 EL) (t : Addr) (u : Int32) (h : Heap) (O : Ext Z.heap h)  :
    Met l Z EL false ⟨"java/lang/StringLatin1", "newString", "([BII)Ljava/lang/String;"⟩ jdk_43_method_47_code 3 (some (.object "java/lang/String")) [] ⟨0, 2, 4, 0⟩ #[(.ref t), (.int u), (.int 0)] h [] (fun r h' => ∃ (x d : Addr) (kd : ClassId), r = some (.ref x) ∧ Keep h h' [] ∧ Str Z h' x d kd []) := by
  have hw := G.hw
  obtain ⟨vo, So, hvo⟩ := G.fo
  refine Met.of (plainFor_of_name pn_4c6174696e31_8) G.ew O ?_
  intro p e s m below meth c T0 C0 S0
  refine Endw.eq (g' := mkF m 0 #[.val (.ref t), .val (.int u), .val (.int 0)] []) rfl ?_
  refine C0.iL (Y24 0 rfl) rfl (C0.fN (Y24 1 rfl) (XT.i0_ne_f (by decide)) ?_)
  refine C0.ldcC (N := 0) (vs := (bys [])) (z := (0 : Int32)) (W304 hw) G.wS (by rw [G.el]; decide) ⟨by decide, by decide⟩ (by decide) (by decide) (by decide) (by decide) (by decide) (by decide) (Y24 2 rfl) (pc' := 6) rfl rfl ?_
  intro vm1 T1 h1 a1 b1 kA1 C1 K1 A1 E1 F1 f1 V1 r1
  have Z1 : Str Z h1 a1 b1 kA1 [] := ⟨E1, F1, f1, V1, own_c0, by decide⟩
  exact C1.retA (t := (.object "java/lang/String")) rfl rfl rfl rfl (Y24 3 rfl) (by decide) (by decide) ⟨a1, b1, kA1, rfl, K1, Z1⟩
theorem rm_sub (G : Glob Z a0 EL) (a t : Addr) (kb : ClassId) (cs : List Int32) (i j : Nat) (h : Heap) (O : Ext Z.heap h) (S : Str Z h a t kb cs) (hij : i ≤ j) (hjn : j ≤ cs.length) (h8 : cs.length ≤ 8) :
    Met l Z EL false ⟨"java/lang/String", "substring", "(II)Ljava/lang/String;"⟩ jdk_42_method_92_code 5 (some (.object "java/lang/String")) [] ⟨4, 2, 12, 64⟩ #[(.ref a), (.int (Int32.ofNat i)), (.int (Int32.ofNat j))] h [] (fun r h' => ∃ (x d : Addr) (kd : ClassId), r = some (.ref x) ∧ Keep h h' [] ∧ Str Z h' x d kd (own_sl cs i j)) := by
  have hw := G.hw
  obtain ⟨vo, So, hvo⟩ := G.fo
  refine Met.of (plainFor_of_name pn_537472696e67_6) G.ew O ?_
  intro p e s m below meth c T0 C0 S0
  refine Endw.eq (g' := mkF m 0 #[.val (.ref a), .val (.int (Int32.ofNat i)), .val (.int (Int32.ofNat j)), .unset, .unset] []) rfl ?_
  refine C0.aL (Y25 0 rfl) rfl rfl ?_
  refine C0.virtual (W := 0) (W60 hw) (W61 hw) (fun _ q => notFace_of_selects (args := #[]) (mvT q (W63 hw))) (W63 hw) (W62 hw) (W64 hw) (W10 hw) (by decide) (rm_strLen l Z a0 EL G a t kb cs h C0.old S) (fun _ => rfl) rfl S.1 all0 (by decide) (by decide) (by decide) (by decide) (lenOf pd_282949 rfl) rfl (nb rfl) rfl (Y25 1 rfl) (pc' := 4) rfl ?_
  intro vm1 T1 h1 v1 C1 A1 M1 q1
  obtain ⟨rfl, rfl⟩ := q1
  refine C1.iS (Y25 2 rfl) (l' := #[.val (.ref a), .val (.int (Int32.ofNat i)), .val (.int (Int32.ofNat j)), .val (.int (Int32.ofNat cs.length)), .unset]) rfl ?_
  rcases own_subCases (n := cs.length) hij with ha | ⟨hne, hn⟩ | ⟨hne, hlt⟩
  · refine C1.iL (Y25 3 rfl) rfl (C1.iL (Y25 4 rfl) rfl (C1.iL (Y25 5 rfl) rfl ?_))
    refine C1.static (W := 0) (wd hw 120 rfl) (wd hw 121 rfl) (wd hw 122 rfl) (W10 hw) (by decide) (rm_cbe l Z a0 EL G i j cs.length h C1.old hij hjn S.le4) (fun _ => rfl) rfl all0 (by decide) (by decide) (by decide) (by decide) (lenOf pd_284949492956 rfl) rfl (nb rfl) rfl (Y25 6 rfl) (pc' := 11) rfl ?_
    intro vm2 T2 h2 v2 C2 A2 M2 q2
    obtain ⟨rfl, rfl⟩ := q2
    refine C2.iL (Y25 7 rfl) rfl (C2.fN (Y25 8 rfl) (XT.i0_ne_f (by rw [ha.1]; rfl)) (C2.iL (Y25 9 rfl) rfl (C2.iL (Y25 10 rfl) rfl (C2.cN (Y25 11 rfl) (XT.ii_ne_f (by rw [ha.2])) (C2.aL (Y25 12 rfl) rfl rfl ?_)))))
    exact C2.retA (t := (.object "java/lang/String")) rfl rfl rfl rfl (Y25 13 rfl) (by decide) (by decide) ⟨a, t, kb, rfl, (kR h []), (by rw [ha.1, ha.2, own_sl_all]; exact S)⟩
  · refine C1.iL (Y25 3 rfl) rfl (C1.iL (Y25 4 rfl) rfl (C1.iL (Y25 5 rfl) rfl ?_))
    refine C1.static (W := 0) (wd hw 120 rfl) (wd hw 121 rfl) (wd hw 122 rfl) (W10 hw) (by decide) (rm_cbe l Z a0 EL G i j cs.length h C1.old hij hjn S.le4) (fun _ => rfl) rfl all0 (by decide) (by decide) (by decide) (by decide) (lenOf pd_284949492956 rfl) rfl (nb rfl) rfl (Y25 6 rfl) (pc' := 11) rfl ?_
    intro vm3 T3 h3 v3 C3 A3 M3 q3
    obtain ⟨rfl, rfl⟩ := q3
    refine C3.iL (Y25 7 rfl) rfl ?_
    by_cases c4 : (Int32.ofNat i) = (0 : Int32)
    · refine C3.fN (Y25 8 rfl) (XT.i0_ne_f c4) (C3.iL (Y25 9 rfl) rfl (C3.iL (Y25 10 rfl) rfl (C3.cY (pc' := 22) (Y25 11 rfl) (XT.ii_ne_t (fun q => hne ⟨(own_ieq (b := 0) (by omega) (by omega)).mp c4, (own_ieq (by omega) (by omega)).mp q⟩)) (by decide) rfl (C3.iL (Y25 14 rfl) rfl (C3.iL (Y25 15 rfl) rfl (C3.sb (z := ((Int32.ofNat j) - (Int32.ofNat i))) (Y25 16 rfl) rfl ?_))))))
      rw [show ((Int32.ofNat j) - (Int32.ofNat i)) = (0 : Int32) from by rw [hn, own_sub (Nat.le_refl _), Nat.sub_self]; rfl]
      refine C3.iSk (Y25 17 rfl) (l' := #[.val (.ref a), .val (.int (Int32.ofNat i)), .val (.int (Int32.ofNat j)), .val (.int (Int32.ofNat cs.length)), .val (.int 0)]) rfl (C3.aL (Y25 18 rfl) rfl rfl ?_)
      refine C3.virtual (W := 0) (W55 hw) (W56 hw) (fun _ q => notFace_of_selects (args := #[]) (mvT q (W58 hw))) (W58 hw) (W57 hw) (W59 hw) (W10 hw) (by decide) (rm_isLatin1 l Z a0 EL G a h C3.old S.2.1) (fun _ => rfl) rfl S.1 all0 (by decide) (by decide) (by decide) (by decide) (lenOf pd_28295a rfl) rfl (nb rfl) rfl (Y25 19 rfl) (pc' := 31) rfl ?_
      intro vm5 T5 h5 v5 C5 A5 M5 q5
      obtain ⟨rfl, rfl⟩ := q5
      refine C5.fN (Y25 20 rfl) (XT.i0_eq_f (by decide)) (C5.aL (Y25 21 rfl) rfl rfl ?_)
      refine C5.getF (W35 hw) S.2.2.1 (Y25 22 rfl) (pc' := 38) rfl ?_
      intro T6 C6
      refine C6.iL (Y25 23 rfl) rfl (C6.iLk (Y25 24 rfl) rfl ?_)
      refine C6.static (W := 0) (W126 hw) (W127 hw) (W128 hw) (W72 hw) (by decide) (rm_ns0 l Z a0 EL G t (Int32.ofNat i) h C6.old) (fun z => nomatch z) rfl all0 (by decide) (by decide) (by decide) (by decide) (lenOf pd_45 rfl) rfl (nb rfl) rfl (Y25 25 rfl) (pc' := 44) rfl ?_
      intro vm7 T7 h7 v7 C7 A7 M7 q7
      obtain ⟨x7, d7, kd7, rfl, K7, Z7⟩ := q7
      refine C7.go (pc' := 57) (Y25 26 rfl) (by decide) rfl ?_
      exact C7.retA (t := (.object "java/lang/String")) rfl rfl rfl rfl (Y25 27 rfl) (by decide) (by decide) ⟨x7, d7, kd7, rfl, K7, (by rw [hn, own_sl_nil]; exact Z7)⟩
    · refine C3.fY (pc' := 22) (Y25 8 rfl) (XT.i0_ne_t c4) (by decide) rfl (C3.iL (Y25 14 rfl) rfl (C3.iL (Y25 15 rfl) rfl (C3.sb (z := ((Int32.ofNat j) - (Int32.ofNat i))) (Y25 16 rfl) rfl ?_)))
      rw [show ((Int32.ofNat j) - (Int32.ofNat i)) = (0 : Int32) from by rw [hn, own_sub (Nat.le_refl _), Nat.sub_self]; rfl]
      refine C3.iSk (Y25 17 rfl) (l' := #[.val (.ref a), .val (.int (Int32.ofNat i)), .val (.int (Int32.ofNat j)), .val (.int (Int32.ofNat cs.length)), .val (.int 0)]) rfl (C3.aL (Y25 18 rfl) rfl rfl ?_)
      refine C3.virtual (W := 0) (W55 hw) (W56 hw) (fun _ q => notFace_of_selects (args := #[]) (mvT q (W58 hw))) (W58 hw) (W57 hw) (W59 hw) (W10 hw) (by decide) (rm_isLatin1 l Z a0 EL G a h C3.old S.2.1) (fun _ => rfl) rfl S.1 all0 (by decide) (by decide) (by decide) (by decide) (lenOf pd_28295a rfl) rfl (nb rfl) rfl (Y25 19 rfl) (pc' := 31) rfl ?_
      intro vm8 T8 h8 v8 C8 A8 M8 q8
      obtain ⟨rfl, rfl⟩ := q8
      refine C8.fN (Y25 20 rfl) (XT.i0_eq_f (by decide)) (C8.aL (Y25 21 rfl) rfl rfl ?_)
      refine C8.getF (W35 hw) S.2.2.1 (Y25 22 rfl) (pc' := 38) rfl ?_
      intro T9 C9
      refine C9.iL (Y25 23 rfl) rfl (C9.iLk (Y25 24 rfl) rfl ?_)
      refine C9.static (W := 0) (W126 hw) (W127 hw) (W128 hw) (W72 hw) (by decide) (rm_ns0 l Z a0 EL G t (Int32.ofNat i) h C9.old) (fun z => nomatch z) rfl all0 (by decide) (by decide) (by decide) (by decide) (lenOf pd_45 rfl) rfl (nb rfl) rfl (Y25 25 rfl) (pc' := 44) rfl ?_
      intro vm10 T10 h10 v10 C10 A10 M10 q10
      obtain ⟨x10, d10, kd10, rfl, K10, Z10⟩ := q10
      refine C10.go (pc' := 57) (Y25 26 rfl) (by decide) rfl ?_
      exact C10.retA (t := (.object "java/lang/String")) rfl rfl rfl rfl (Y25 27 rfl) (by decide) (by decide) ⟨x10, d10, kd10, rfl, K10, (by rw [hn, own_sl_nil]; exact Z10)⟩
  · refine C1.iL (Y25 3 rfl) rfl (C1.iL (Y25 4 rfl) rfl (C1.iL (Y25 5 rfl) rfl ?_))
    refine C1.static (W := 0) (wd hw 120 rfl) (wd hw 121 rfl) (wd hw 122 rfl) (W10 hw) (by decide) (rm_cbe l Z a0 EL G i j cs.length h C1.old hij hjn S.le4) (fun _ => rfl) rfl all0 (by decide) (by decide) (by decide) (by decide) (lenOf pd_284949492956 rfl) rfl (nb rfl) rfl (Y25 6 rfl) (pc' := 11) rfl ?_
    intro vm11 T11 h11 v11 C11 A11 M11 q11
    obtain ⟨rfl, rfl⟩ := q11
    refine C11.iL (Y25 7 rfl) rfl ?_
    by_cases c12 : (Int32.ofNat i) = (0 : Int32)
    · refine C11.fN (Y25 8 rfl) (XT.i0_ne_f c12) (C11.iL (Y25 9 rfl) rfl (C11.iL (Y25 10 rfl) rfl (C11.cY (pc' := 22) (Y25 11 rfl) (XT.ii_ne_t (fun q => hne ⟨(own_ieq (b := 0) (by omega) (by omega)).mp c12, (own_ieq (by omega) (by omega)).mp q⟩)) (by decide) rfl (C11.iL (Y25 14 rfl) rfl (C11.iL (Y25 15 rfl) rfl (C11.sb (z := ((Int32.ofNat j) - (Int32.ofNat i))) (Y25 16 rfl) rfl ?_))))))
      rw [show ((Int32.ofNat j) - (Int32.ofNat i)) = (Int32.ofNat (j - i)) from own_sub hij]
      refine C11.iSk (Y25 17 rfl) (l' := #[.val (.ref a), .val (.int (Int32.ofNat i)), .val (.int (Int32.ofNat j)), .val (.int (Int32.ofNat cs.length)), .val (.int (Int32.ofNat (j - i)))]) rfl (C11.aL (Y25 18 rfl) rfl rfl ?_)
      refine C11.virtual (W := 0) (W55 hw) (W56 hw) (fun _ q => notFace_of_selects (args := #[]) (mvT q (W58 hw))) (W58 hw) (W57 hw) (W59 hw) (W10 hw) (by decide) (rm_isLatin1 l Z a0 EL G a h C11.old S.2.1) (fun _ => rfl) rfl S.1 all0 (by decide) (by decide) (by decide) (by decide) (lenOf pd_28295a rfl) rfl (nb rfl) rfl (Y25 19 rfl) (pc' := 31) rfl ?_
      intro vm13 T13 h13 v13 C13 A13 M13 q13
      obtain ⟨rfl, rfl⟩ := q13
      refine C13.fN (Y25 20 rfl) (XT.i0_eq_f (by decide)) (C13.aL (Y25 21 rfl) rfl rfl ?_)
      refine C13.getF (W35 hw) S.2.2.1 (Y25 22 rfl) (pc' := 38) rfl ?_
      intro T14 C14
      refine C14.iL (Y25 23 rfl) rfl (C14.iLk (Y25 24 rfl) rfl ?_)
      refine C14.static (W := 0) (W126 hw) (W127 hw) (W128 hw) (W72 hw) (by decide) (rm_ns l Z a0 EL G t kb cs i j h C14.old S.2.2.2.1 hij hjn h8 hne hlt S.2.2.2.2.1) (fun _ => rfl) rfl all0 (by decide) (by decide) (by decide) (by decide) (lenOf pd_45 rfl) rfl (nb rfl) rfl (Y25 25 rfl) (pc' := 44) rfl ?_
      intro vm15 T15 h15 v15 C15 A15 M15 q15
      obtain ⟨x15, d15, kd15, rfl, K15, Z15⟩ := q15
      refine C15.go (pc' := 57) (Y25 26 rfl) (by decide) rfl ?_
      exact C15.retA (t := (.object "java/lang/String")) rfl rfl rfl rfl (Y25 27 rfl) (by decide) (by decide) ⟨x15, d15, kd15, rfl, K15, Z15⟩
    · refine C11.fY (pc' := 22) (Y25 8 rfl) (XT.i0_ne_t c12) (by decide) rfl (C11.iL (Y25 14 rfl) rfl (C11.iL (Y25 15 rfl) rfl (C11.sb (z := ((Int32.ofNat j) - (Int32.ofNat i))) (Y25 16 rfl) rfl ?_)))
      rw [show ((Int32.ofNat j) - (Int32.ofNat i)) = (Int32.ofNat (j - i)) from own_sub hij]
      refine C11.iSk (Y25 17 rfl) (l' := #[.val (.ref a), .val (.int (Int32.ofNat i)), .val (.int (Int32.ofNat j)), .val (.int (Int32.ofNat cs.length)), .val (.int (Int32.ofNat (j - i)))]) rfl (C11.aL (Y25 18 rfl) rfl rfl ?_)
      refine C11.virtual (W := 0) (W55 hw) (W56 hw) (fun _ q => notFace_of_selects (args := #[]) (mvT q (W58 hw))) (W58 hw) (W57 hw) (W59 hw) (W10 hw) (by decide) (rm_isLatin1 l Z a0 EL G a h C11.old S.2.1) (fun _ => rfl) rfl S.1 all0 (by decide) (by decide) (by decide) (by decide) (lenOf pd_28295a rfl) rfl (nb rfl) rfl (Y25 19 rfl) (pc' := 31) rfl ?_
      intro vm16 T16 h16 v16 C16 A16 M16 q16
      obtain ⟨rfl, rfl⟩ := q16
      refine C16.fN (Y25 20 rfl) (XT.i0_eq_f (by decide)) (C16.aL (Y25 21 rfl) rfl rfl ?_)
      refine C16.getF (W35 hw) S.2.2.1 (Y25 22 rfl) (pc' := 38) rfl ?_
      intro T17 C17
      refine C17.iL (Y25 23 rfl) rfl (C17.iLk (Y25 24 rfl) rfl ?_)
      refine C17.static (W := 0) (W126 hw) (W127 hw) (W128 hw) (W72 hw) (by decide) (rm_ns l Z a0 EL G t kb cs i j h C17.old S.2.2.2.1 hij hjn h8 hne hlt S.2.2.2.2.1) (fun _ => rfl) rfl all0 (by decide) (by decide) (by decide) (by decide) (lenOf pd_45 rfl) rfl (nb rfl) rfl (Y25 25 rfl) (pc' := 44) rfl ?_
      intro vm18 T18 h18 v18 C18 A18 M18 q18
      obtain ⟨x18, d18, kd18, rfl, K18, Z18⟩ := q18
      refine C18.go (pc' := 57) (Y25 26 rfl) (by decide) rfl ?_
      exact C18.retA (t := (.object "java/lang/String")) rfl rfl rfl rfl (Y25 27 rfl) (by decide) (by decide) ⟨x18, d18, kd18, rfl, K18, Z18⟩
theorem rm_sub_all (G : Glob Z a0 EL) (a t : Addr) (kb : ClassId) (cs : List Int32) (i j : Nat) (h : Heap) (O : Ext Z.heap h) (S : Str Z h a t kb cs) (hij : i ≤ j) (hjn : j ≤ cs.length) (h8 : cs.length ≤ 8) (ha : i = 0 ∧ j = cs.length) :
    Met l Z EL true ⟨"java/lang/String", "substring", "(II)Ljava/lang/String;"⟩ jdk_42_method_92_code 5 (some (.object "java/lang/String")) [] ⟨2, 0, 0, 29⟩ #[(.ref a), (.int (Int32.ofNat i)), (.int (Int32.ofNat j))] h [] (fun r h' => r = some (.ref a) ∧ h = h') := by
  have hw := G.hw
  obtain ⟨vo, So, hvo⟩ := G.fo
  refine Met.of (plainFor_of_name pn_537472696e67_6) G.ew O ?_
  intro p e s m below meth c T0 C0 S0
  refine Endw.eq (g' := mkF m 0 #[.val (.ref a), .val (.int (Int32.ofNat i)), .val (.int (Int32.ofNat j)), .unset, .unset] []) rfl ?_
  refine C0.aL (Y25 0 rfl) rfl rfl ?_
  refine C0.virtual (W := 0) (W60 hw) (W61 hw) (fun _ q => notFace_of_selects (args := #[]) (mvT q (W63 hw))) (W63 hw) (W62 hw) (W64 hw) (W10 hw) (by decide) (rm_strLen l Z a0 EL G a t kb cs h C0.old S) (fun _ => rfl) rfl S.1 all0 (by decide) (by decide) (by decide) (by decide) (lenOf pd_282949 rfl) rfl (nb rfl) rfl (Y25 1 rfl) (pc' := 4) rfl ?_
  intro vm1 T1 h1 v1 C1 A1 M1 q1
  obtain ⟨rfl, rfl⟩ := q1
  refine C1.iS (Y25 2 rfl) (l' := #[.val (.ref a), .val (.int (Int32.ofNat i)), .val (.int (Int32.ofNat j)), .val (.int (Int32.ofNat cs.length)), .unset]) rfl (C1.iL (Y25 3 rfl) rfl (C1.iL (Y25 4 rfl) rfl (C1.iL (Y25 5 rfl) rfl ?_)))
  refine C1.static (W := 0) (wd hw 120 rfl) (wd hw 121 rfl) (wd hw 122 rfl) (W10 hw) (by decide) (rm_cbe l Z a0 EL G i j cs.length h C1.old hij hjn S.le4) (fun _ => rfl) rfl all0 (by decide) (by decide) (by decide) (by decide) (lenOf pd_284949492956 rfl) rfl (nb rfl) rfl (Y25 6 rfl) (pc' := 11) rfl ?_
  intro vm2 T2 h2 v2 C2 A2 M2 q2
  obtain ⟨rfl, rfl⟩ := q2
  refine C2.iL (Y25 7 rfl) rfl (C2.fN (Y25 8 rfl) (XT.i0_ne_f (by rw [ha.1]; rfl)) (C2.iL (Y25 9 rfl) rfl (C2.iL (Y25 10 rfl) rfl (C2.cN (Y25 11 rfl) (XT.ii_ne_f (by rw [ha.2])) (C2.aL (Y25 12 rfl) rfl rfl ?_)))))
  exact C2.retA (t := (.object "java/lang/String")) rfl rfl rfl rfl (Y25 13 rfl) (by decide) (by decide) ⟨rfl, rfl⟩
theorem rm_sub_nil (G : Glob Z a0 EL) (a t : Addr) (kb : ClassId) (cs : List Int32) (i j : Nat) (h : Heap) (O : Ext Z.heap h) (S : Str Z h a t kb cs) (hij : i ≤ j) (hjn : j ≤ cs.length) (h8 : cs.length ≤ 8) (hne : ¬ (i = 0 ∧ j = cs.length)) (hn : i = j) :
    Met l Z EL false ⟨"java/lang/String", "substring", "(II)Ljava/lang/String;"⟩ jdk_42_method_92_code 5 (some (.object "java/lang/String")) [] ⟨2, 2, 4, 29⟩ #[(.ref a), (.int (Int32.ofNat i)), (.int (Int32.ofNat j))] h [] (fun r h' => ∃ (x d : Addr) (kd : ClassId), r = some (.ref x) ∧ Keep h h' [] ∧ Str Z h' x d kd []) := by
  have hw := G.hw
  obtain ⟨vo, So, hvo⟩ := G.fo
  refine Met.of (plainFor_of_name pn_537472696e67_6) G.ew O ?_
  intro p e s m below meth c T0 C0 S0
  refine Endw.eq (g' := mkF m 0 #[.val (.ref a), .val (.int (Int32.ofNat i)), .val (.int (Int32.ofNat j)), .unset, .unset] []) rfl ?_
  refine C0.aL (Y25 0 rfl) rfl rfl ?_
  refine C0.virtual (W := 0) (W60 hw) (W61 hw) (fun _ q => notFace_of_selects (args := #[]) (mvT q (W63 hw))) (W63 hw) (W62 hw) (W64 hw) (W10 hw) (by decide) (rm_strLen l Z a0 EL G a t kb cs h C0.old S) (fun _ => rfl) rfl S.1 all0 (by decide) (by decide) (by decide) (by decide) (lenOf pd_282949 rfl) rfl (nb rfl) rfl (Y25 1 rfl) (pc' := 4) rfl ?_
  intro vm1 T1 h1 v1 C1 A1 M1 q1
  obtain ⟨rfl, rfl⟩ := q1
  refine C1.iS (Y25 2 rfl) (l' := #[.val (.ref a), .val (.int (Int32.ofNat i)), .val (.int (Int32.ofNat j)), .val (.int (Int32.ofNat cs.length)), .unset]) rfl (C1.iL (Y25 3 rfl) rfl (C1.iL (Y25 4 rfl) rfl (C1.iL (Y25 5 rfl) rfl ?_)))
  refine C1.static (W := 0) (wd hw 120 rfl) (wd hw 121 rfl) (wd hw 122 rfl) (W10 hw) (by decide) (rm_cbe l Z a0 EL G i j cs.length h C1.old hij hjn S.le4) (fun _ => rfl) rfl all0 (by decide) (by decide) (by decide) (by decide) (lenOf pd_284949492956 rfl) rfl (nb rfl) rfl (Y25 6 rfl) (pc' := 11) rfl ?_
  intro vm2 T2 h2 v2 C2 A2 M2 q2
  obtain ⟨rfl, rfl⟩ := q2
  refine C2.iL (Y25 7 rfl) rfl ?_
  by_cases c3 : (Int32.ofNat i) = (0 : Int32)
  · refine C2.fN (Y25 8 rfl) (XT.i0_ne_f c3) (C2.iL (Y25 9 rfl) rfl (C2.iL (Y25 10 rfl) rfl (C2.cY (pc' := 22) (Y25 11 rfl) (XT.ii_ne_t (fun q => hne ⟨(own_ieq (b := 0) (by omega) (by omega)).mp c3, (own_ieq (by omega) (by omega)).mp q⟩)) (by decide) rfl (C2.iL (Y25 14 rfl) rfl (C2.iL (Y25 15 rfl) rfl (C2.sb (z := ((Int32.ofNat j) - (Int32.ofNat i))) (Y25 16 rfl) rfl ?_))))))
    rw [show ((Int32.ofNat j) - (Int32.ofNat i)) = (0 : Int32) from by rw [hn, own_sub (Nat.le_refl _), Nat.sub_self]; rfl]
    refine C2.iSk (Y25 17 rfl) (l' := #[.val (.ref a), .val (.int (Int32.ofNat i)), .val (.int (Int32.ofNat j)), .val (.int (Int32.ofNat cs.length)), .val (.int 0)]) rfl (C2.aL (Y25 18 rfl) rfl rfl ?_)
    refine C2.virtual (W := 0) (W55 hw) (W56 hw) (fun _ q => notFace_of_selects (args := #[]) (mvT q (W58 hw))) (W58 hw) (W57 hw) (W59 hw) (W10 hw) (by decide) (rm_isLatin1 l Z a0 EL G a h C2.old S.2.1) (fun _ => rfl) rfl S.1 all0 (by decide) (by decide) (by decide) (by decide) (lenOf pd_28295a rfl) rfl (nb rfl) rfl (Y25 19 rfl) (pc' := 31) rfl ?_
    intro vm4 T4 h4 v4 C4 A4 M4 q4
    obtain ⟨rfl, rfl⟩ := q4
    refine C4.fN (Y25 20 rfl) (XT.i0_eq_f (by decide)) (C4.aL (Y25 21 rfl) rfl rfl ?_)
    refine C4.getF (W35 hw) S.2.2.1 (Y25 22 rfl) (pc' := 38) rfl ?_
    intro T5 C5
    refine C5.iL (Y25 23 rfl) rfl (C5.iLk (Y25 24 rfl) rfl ?_)
    refine C5.static (W := 0) (W126 hw) (W127 hw) (W128 hw) (W72 hw) (by decide) (rm_ns0 l Z a0 EL G t (Int32.ofNat i) h C5.old) (fun z => nomatch z) rfl all0 (by decide) (by decide) (by decide) (by decide) (lenOf pd_45 rfl) rfl (nb rfl) rfl (Y25 25 rfl) (pc' := 44) rfl ?_
    intro vm6 T6 h6 v6 C6 A6 M6 q6
    obtain ⟨x6, d6, kd6, rfl, K6, Z6⟩ := q6
    refine C6.go (pc' := 57) (Y25 26 rfl) (by decide) rfl ?_
    exact C6.retA (t := (.object "java/lang/String")) rfl rfl rfl rfl (Y25 27 rfl) (by decide) (by decide) ⟨x6, d6, kd6, rfl, K6, Z6⟩
  · refine C2.fY (pc' := 22) (Y25 8 rfl) (XT.i0_ne_t c3) (by decide) rfl (C2.iL (Y25 14 rfl) rfl (C2.iL (Y25 15 rfl) rfl (C2.sb (z := ((Int32.ofNat j) - (Int32.ofNat i))) (Y25 16 rfl) rfl ?_)))
    rw [show ((Int32.ofNat j) - (Int32.ofNat i)) = (0 : Int32) from by rw [hn, own_sub (Nat.le_refl _), Nat.sub_self]; rfl]
    refine C2.iSk (Y25 17 rfl) (l' := #[.val (.ref a), .val (.int (Int32.ofNat i)), .val (.int (Int32.ofNat j)), .val (.int (Int32.ofNat cs.length)), .val (.int 0)]) rfl (C2.aL (Y25 18 rfl) rfl rfl ?_)
    refine C2.virtual (W := 0) (W55 hw) (W56 hw) (fun _ q => notFace_of_selects (args := #[]) (mvT q (W58 hw))) (W58 hw) (W57 hw) (W59 hw) (W10 hw) (by decide) (rm_isLatin1 l Z a0 EL G a h C2.old S.2.1) (fun _ => rfl) rfl S.1 all0 (by decide) (by decide) (by decide) (by decide) (lenOf pd_28295a rfl) rfl (nb rfl) rfl (Y25 19 rfl) (pc' := 31) rfl ?_
    intro vm7 T7 h7 v7 C7 A7 M7 q7
    obtain ⟨rfl, rfl⟩ := q7
    refine C7.fN (Y25 20 rfl) (XT.i0_eq_f (by decide)) (C7.aL (Y25 21 rfl) rfl rfl ?_)
    refine C7.getF (W35 hw) S.2.2.1 (Y25 22 rfl) (pc' := 38) rfl ?_
    intro T8 C8
    refine C8.iL (Y25 23 rfl) rfl (C8.iLk (Y25 24 rfl) rfl ?_)
    refine C8.static (W := 0) (W126 hw) (W127 hw) (W128 hw) (W72 hw) (by decide) (rm_ns0 l Z a0 EL G t (Int32.ofNat i) h C8.old) (fun z => nomatch z) rfl all0 (by decide) (by decide) (by decide) (by decide) (lenOf pd_45 rfl) rfl (nb rfl) rfl (Y25 25 rfl) (pc' := 44) rfl ?_
    intro vm9 T9 h9 v9 C9 A9 M9 q9
    obtain ⟨x9, d9, kd9, rfl, K9, Z9⟩ := q9
    refine C9.go (pc' := 57) (Y25 26 rfl) (by decide) rfl ?_
    exact C9.retA (t := (.object "java/lang/String")) rfl rfl rfl rfl (Y25 27 rfl) (by decide) (by decide) ⟨x9, d9, kd9, rfl, K9, Z9⟩
theorem rm_sub_mid (G : Glob Z a0 EL) (a t : Addr) (kb : ClassId) (cs : List Int32) (i j : Nat) (h : Heap) (O : Ext Z.heap h) (S : Str Z h a t kb cs) (hij : i ≤ j) (hjn : j ≤ cs.length) (h8 : cs.length ≤ 8) (hne : ¬ (i = 0 ∧ j = cs.length)) (hlt : i < j) :
    Met l Z EL true ⟨"java/lang/String", "substring", "(II)Ljava/lang/String;"⟩ jdk_42_method_92_code 5 (some (.object "java/lang/String")) [] ⟨4, 2, 12, 64⟩ #[(.ref a), (.int (Int32.ofNat i)), (.int (Int32.ofNat j))] h [] (fun r h' => ∃ (x d : Addr) (kd : ClassId), r = some (.ref x) ∧ Keep h h' [] ∧ Str Z h' x d kd (own_sl cs i j)) := by
  have hw := G.hw
  obtain ⟨vo, So, hvo⟩ := G.fo
  refine Met.of (plainFor_of_name pn_537472696e67_6) G.ew O ?_
  intro p e s m below meth c T0 C0 S0
  refine Endw.eq (g' := mkF m 0 #[.val (.ref a), .val (.int (Int32.ofNat i)), .val (.int (Int32.ofNat j)), .unset, .unset] []) rfl ?_
  refine C0.aL (Y25 0 rfl) rfl rfl ?_
  refine C0.virtual (W := 0) (W60 hw) (W61 hw) (fun _ q => notFace_of_selects (args := #[]) (mvT q (W63 hw))) (W63 hw) (W62 hw) (W64 hw) (W10 hw) (by decide) (rm_strLen l Z a0 EL G a t kb cs h C0.old S) (fun _ => rfl) rfl S.1 all0 (by decide) (by decide) (by decide) (by decide) (lenOf pd_282949 rfl) rfl (nb rfl) rfl (Y25 1 rfl) (pc' := 4) rfl ?_
  intro vm1 T1 h1 v1 C1 A1 M1 q1
  obtain ⟨rfl, rfl⟩ := q1
  refine C1.iS (Y25 2 rfl) (l' := #[.val (.ref a), .val (.int (Int32.ofNat i)), .val (.int (Int32.ofNat j)), .val (.int (Int32.ofNat cs.length)), .unset]) rfl (C1.iL (Y25 3 rfl) rfl (C1.iL (Y25 4 rfl) rfl (C1.iL (Y25 5 rfl) rfl ?_)))
  refine C1.static (W := 0) (wd hw 120 rfl) (wd hw 121 rfl) (wd hw 122 rfl) (W10 hw) (by decide) (rm_cbe l Z a0 EL G i j cs.length h C1.old hij hjn S.le4) (fun _ => rfl) rfl all0 (by decide) (by decide) (by decide) (by decide) (lenOf pd_284949492956 rfl) rfl (nb rfl) rfl (Y25 6 rfl) (pc' := 11) rfl ?_
  intro vm2 T2 h2 v2 C2 A2 M2 q2
  obtain ⟨rfl, rfl⟩ := q2
  refine C2.iL (Y25 7 rfl) rfl ?_
  by_cases c3 : (Int32.ofNat i) = (0 : Int32)
  · refine C2.fN (Y25 8 rfl) (XT.i0_ne_f c3) (C2.iL (Y25 9 rfl) rfl (C2.iL (Y25 10 rfl) rfl (C2.cY (pc' := 22) (Y25 11 rfl) (XT.ii_ne_t (fun q => hne ⟨(own_ieq (b := 0) (by omega) (by omega)).mp c3, (own_ieq (by omega) (by omega)).mp q⟩)) (by decide) rfl (C2.iL (Y25 14 rfl) rfl (C2.iL (Y25 15 rfl) rfl (C2.sb (z := ((Int32.ofNat j) - (Int32.ofNat i))) (Y25 16 rfl) rfl ?_))))))
    rw [show ((Int32.ofNat j) - (Int32.ofNat i)) = (Int32.ofNat (j - i)) from own_sub hij]
    refine C2.iSk (Y25 17 rfl) (l' := #[.val (.ref a), .val (.int (Int32.ofNat i)), .val (.int (Int32.ofNat j)), .val (.int (Int32.ofNat cs.length)), .val (.int (Int32.ofNat (j - i)))]) rfl (C2.aL (Y25 18 rfl) rfl rfl ?_)
    refine C2.virtual (W := 0) (W55 hw) (W56 hw) (fun _ q => notFace_of_selects (args := #[]) (mvT q (W58 hw))) (W58 hw) (W57 hw) (W59 hw) (W10 hw) (by decide) (rm_isLatin1 l Z a0 EL G a h C2.old S.2.1) (fun _ => rfl) rfl S.1 all0 (by decide) (by decide) (by decide) (by decide) (lenOf pd_28295a rfl) rfl (nb rfl) rfl (Y25 19 rfl) (pc' := 31) rfl ?_
    intro vm4 T4 h4 v4 C4 A4 M4 q4
    obtain ⟨rfl, rfl⟩ := q4
    refine C4.fN (Y25 20 rfl) (XT.i0_eq_f (by decide)) (C4.aL (Y25 21 rfl) rfl rfl ?_)
    refine C4.getF (W35 hw) S.2.2.1 (Y25 22 rfl) (pc' := 38) rfl ?_
    intro T5 C5
    refine C5.iL (Y25 23 rfl) rfl (C5.iLk (Y25 24 rfl) rfl ?_)
    refine C5.static (W := 0) (W126 hw) (W127 hw) (W128 hw) (W72 hw) (by decide) (rm_ns l Z a0 EL G t kb cs i j h C5.old S.2.2.2.1 hij hjn h8 hne hlt S.2.2.2.2.1) (fun _ => rfl) rfl all0 (by decide) (by decide) (by decide) (by decide) (lenOf pd_45 rfl) rfl (nb rfl) rfl (Y25 25 rfl) (pc' := 44) rfl ?_
    intro vm6 T6 h6 v6 C6 A6 M6 q6
    obtain ⟨x6, d6, kd6, rfl, K6, Z6⟩ := q6
    refine C6.go (pc' := 57) (Y25 26 rfl) (by decide) rfl ?_
    exact C6.retA (t := (.object "java/lang/String")) rfl rfl rfl rfl (Y25 27 rfl) (by decide) (by decide) ⟨x6, d6, kd6, rfl, K6, Z6⟩
  · refine C2.fY (pc' := 22) (Y25 8 rfl) (XT.i0_ne_t c3) (by decide) rfl (C2.iL (Y25 14 rfl) rfl (C2.iL (Y25 15 rfl) rfl (C2.sb (z := ((Int32.ofNat j) - (Int32.ofNat i))) (Y25 16 rfl) rfl ?_)))
    rw [show ((Int32.ofNat j) - (Int32.ofNat i)) = (Int32.ofNat (j - i)) from own_sub hij]
    refine C2.iSk (Y25 17 rfl) (l' := #[.val (.ref a), .val (.int (Int32.ofNat i)), .val (.int (Int32.ofNat j)), .val (.int (Int32.ofNat cs.length)), .val (.int (Int32.ofNat (j - i)))]) rfl (C2.aL (Y25 18 rfl) rfl rfl ?_)
    refine C2.virtual (W := 0) (W55 hw) (W56 hw) (fun _ q => notFace_of_selects (args := #[]) (mvT q (W58 hw))) (W58 hw) (W57 hw) (W59 hw) (W10 hw) (by decide) (rm_isLatin1 l Z a0 EL G a h C2.old S.2.1) (fun _ => rfl) rfl S.1 all0 (by decide) (by decide) (by decide) (by decide) (lenOf pd_28295a rfl) rfl (nb rfl) rfl (Y25 19 rfl) (pc' := 31) rfl ?_
    intro vm7 T7 h7 v7 C7 A7 M7 q7
    obtain ⟨rfl, rfl⟩ := q7
    refine C7.fN (Y25 20 rfl) (XT.i0_eq_f (by decide)) (C7.aL (Y25 21 rfl) rfl rfl ?_)
    refine C7.getF (W35 hw) S.2.2.1 (Y25 22 rfl) (pc' := 38) rfl ?_
    intro T8 C8
    refine C8.iL (Y25 23 rfl) rfl (C8.iLk (Y25 24 rfl) rfl ?_)
    refine C8.static (W := 0) (W126 hw) (W127 hw) (W128 hw) (W72 hw) (by decide) (rm_ns l Z a0 EL G t kb cs i j h C8.old S.2.2.2.1 hij hjn h8 hne hlt S.2.2.2.2.1) (fun _ => rfl) rfl all0 (by decide) (by decide) (by decide) (by decide) (lenOf pd_45 rfl) rfl (nb rfl) rfl (Y25 25 rfl) (pc' := 44) rfl ?_
    intro vm9 T9 h9 v9 C9 A9 M9 q9
    obtain ⟨x9, d9, kd9, rfl, K9, Z9⟩ := q9
    refine C9.go (pc' := 57) (Y25 26 rfl) (by decide) rfl ?_
    exact C9.retA (t := (.object "java/lang/String")) rfl rfl rfl rfl (Y25 27 rfl) (by decide) (by decide) ⟨x9, d9, kd9, rfl, K9, Z9⟩
theorem rm_sub1 (G : Glob Z a0 EL) (a t : Addr) (kb : ClassId) (cs : List Int32) (i : Nat) (h : Heap) (O : Ext Z.heap h) (S : Str Z h a t kb cs) (hij : i ≤ cs.length) (h8 : cs.length ≤ 8) :
    Met l Z EL false ⟨"java/lang/String", "substring", "(I)Ljava/lang/String;"⟩ jdk_42_method_91_code 2 (some (.object "java/lang/String")) [] ⟨5, 2, 12, 80⟩ #[(.ref a), (.int (Int32.ofNat i))] h [] (fun r h' => ∃ (x d : Addr) (kd : ClassId), r = some (.ref x) ∧ Keep h h' [] ∧ Str Z h' x d kd (own_sl cs i cs.length)) := by
  have hw := G.hw
  obtain ⟨vo, So, hvo⟩ := G.fo
  refine Met.of (plainFor_of_name pn_537472696e67_6) G.ew O ?_
  intro p e s m below meth c T0 C0 S0
  refine Endw.eq (g' := mkF m 0 #[.val (.ref a), .val (.int (Int32.ofNat i))] []) rfl ?_
  refine C0.aL (Y26 0 rfl) rfl rfl (C0.iL (Y26 1 rfl) rfl (C0.aL (Y26 2 rfl) rfl rfl ?_))
  refine C0.virtual (W := 2) (W60 hw) (W61 hw) (fun _ q => notFace_of_selects (args := #[]) (mvT q (W63 hw))) (W63 hw) (W62 hw) (W64 hw) (W10 hw) (by decide) (rm_strLen l Z a0 EL G a t kb cs h C0.old S) (fun _ => rfl) rfl S.1 all0 (by decide) (by decide) (by decide) (by decide) (lenOf pd_282949 rfl) rfl (nb rfl) rfl (Y26 3 rfl) (pc' := 6) rfl ?_
  intro vm1 T1 h1 v1 C1 A1 M1 q1
  obtain ⟨rfl, rfl⟩ := q1
  refine C1.virtual (W := 0) (wd hw 383 rfl) (W116 hw) (fun _ q => notFace_of_selects (args := #[]) (mvT q (W118 hw))) (W118 hw) (W117 hw) (W119 hw) (W10 hw) (by decide) (rm_sub l Z a0 EL G a t kb cs i cs.length h C1.old S hij (Nat.le_refl _) h8) (fun z => nomatch z) rfl S.1 all0 (by decide) (by decide) (by decide) (by decide) (lenOf pd_16 rfl) rfl (nb rfl) rfl (Y26 4 rfl) (pc' := 9) rfl ?_
  intro vm2 T2 h2 v2 C2 A2 M2 q2
  obtain ⟨x2, d2, kd2, rfl, K2, Z2⟩ := q2
  exact C2.retA (t := (.object "java/lang/String")) rfl rfl rfl rfl (Y26 5 rfl) (by decide) (by decide) ⟨x2, d2, kd2, rfl, K2, Z2⟩
theorem rm_coInit (G : Glob Z a0 EL) (a : Addr) (v0 : Value) (hv0 : v0.isRef = true) (v1 : Value) (hv1 : v1.isRef = true) (v2 : Value) (hv2 : v2.isRef = true) (v3 : Value) (hv3 : v3.isRef = true) (v4 : Value) (hv4 : v4.isRef = true) (h : Heap) (O : Ext Z.heap h) (E0 : Exa Z h a "com/example/quadrille/quadrille/rdf/BaseIri$Components") (F0 : Fld Z h a "com/example/quadrille/quadrille/rdf/BaseIri$Components" "scheme" "Ljava/lang/String;" .null) (F1 : Fld Z h a "com/example/quadrille/quadrille/rdf/BaseIri$Components" "authority" "Ljava/lang/String;" .null) (F2 : Fld Z h a "com/example/quadrille/quadrille/rdf/BaseIri$Components" "path" "Ljava/lang/String;" .null) (F3 : Fld Z h a "com/example/quadrille/quadrille/rdf/BaseIri$Components" "query" "Ljava/lang/String;" .null) (F4 : Fld Z h a "com/example/quadrille/quadrille/rdf/BaseIri$Components" "fragment" "Ljava/lang/String;" .null) (zg0 : Z.heap.size ≤ a) :
    Met l Z EL true ⟨"com/example/quadrille/quadrille/rdf/BaseIri$Components", "<init>", "(Ljava/lang/String;Ljava/lang/String;Ljava/lang/String;Ljava/lang/String;Ljava/lang/String;)V"⟩ prog_4_method_1_code 6 none [] ⟨1, 0, 0, 12⟩ #[(.ref a), v0, v1, v2, v3, v4] h [] (fun r h' => r = none ∧ Keep h h' [a] ∧ Exa Z h' a "com/example/quadrille/quadrille/rdf/BaseIri$Components" ∧ Fld Z h' a "com/example/quadrille/quadrille/rdf/BaseIri$Components" "scheme" "Ljava/lang/String;" v0 ∧ Fld Z h' a "com/example/quadrille/quadrille/rdf/BaseIri$Components" "authority" "Ljava/lang/String;" v1 ∧ Fld Z h' a "com/example/quadrille/quadrille/rdf/BaseIri$Components" "path" "Ljava/lang/String;" v2 ∧ Fld Z h' a "com/example/quadrille/quadrille/rdf/BaseIri$Components" "query" "Ljava/lang/String;" v3 ∧ Fld Z h' a "com/example/quadrille/quadrille/rdf/BaseIri$Components" "fragment" "Ljava/lang/String;" v4) := by
  have hw := G.hw
  obtain ⟨vo, So, hvo⟩ := G.fo
  refine Met.of (plainFor_of_name pn_6f6e656e7473_1) G.ew O ?_
  intro p e s m below meth c T0 C0 S0
  refine Endw.eq (g' := mkF m 0 #[.val (.ref a), .val v0, .val v1, .val v2, .val v3, .val v4] []) (by simp [entryFrame, mkF, argsToLocals, own_cI, own_cR, own_cN, own_cJ, own_cD, maxLocals, XT.cat1 hv0, XT.cat1 hv1, XT.cat1 hv2, XT.cat1 hv3, XT.cat1 hv4]) ?_
  refine C0.aL (Y27 0 rfl) rfl rfl ?_
  refine C0.initO (wd hw 151 rfl) (W19 hw) (W20 hw) rfl (Y27 1 rfl) (pc' := 4) rfl (by decide) (W := 0) (nb rfl) (by decide) ?_
  intro T1 C1
  refine C1.aL (Y27 2 rfl) rfl rfl (C1.aL (Y27 3 rfl) rfl hv0 ?_)
  refine C1.putF (v := v0) (W152 hw) F0 E0 (Or.inr ⟨(W153 hw), rfl, rfl⟩) (W114 hw) (ty := (.object "java/lang/String")) (by decide) (own_nar_ref hv0) (own_fits_ref hv0) zg0 (Safe.exa C1.warm.alike E0 (by decide) (by decide)) (Y27 4 rfl) (pc' := 9) rfl ?_
  intro T2 h2 C2 K2 A2 Wr2
  have f3 := F0.same Wr2
  have f4 := F1.other Wr2 (Or.inr (slot_ne (Or.inr (W155 hw)) (Or.inr (W153 hw)) (by decide) (t := (.object "java/lang/String")) (t' := (.object "java/lang/String")) (by decide) (by decide)))
  have f5 := F2.other Wr2 (Or.inr (slot_ne (Or.inr (W157 hw)) (Or.inr (W153 hw)) (by decide) (t := (.object "java/lang/String")) (t' := (.object "java/lang/String")) (by decide) (by decide)))
  have f6 := F3.other Wr2 (Or.inr (slot_ne (Or.inr (W159 hw)) (Or.inr (W153 hw)) (by decide) (t := (.object "java/lang/String")) (t' := (.object "java/lang/String")) (by decide) (by decide)))
  have f7 := F4.other Wr2 (Or.inr (slot_ne (Or.inr (W161 hw)) (Or.inr (W153 hw)) (by decide) (t := (.object "java/lang/String")) (t' := (.object "java/lang/String")) (by decide) (by decide)))
  refine C2.aL (Y27 5 rfl) rfl rfl (C2.aL (Y27 6 rfl) rfl hv1 ?_)
  have f8 := (E0.keep K2)
  refine C2.putF (v := v1) (W154 hw) f4 f8 (Or.inr ⟨(W155 hw), rfl, rfl⟩) (W114 hw) (ty := (.object "java/lang/String")) (by decide) (own_nar_ref hv1) (own_fits_ref hv1) zg0 (Safe.exa C2.warm.alike f8 (by decide) (by decide)) (Y27 7 rfl) (pc' := 14) rfl ?_
  intro T9 h9 C9 K9 A9 Wr9
  have f10 := f4.same Wr9
  have f11 := f3.other Wr9 (Or.inr (slot_ne (Or.inr (W153 hw)) (Or.inr (W155 hw)) (by decide) (t := (.object "java/lang/String")) (t' := (.object "java/lang/String")) (by decide) (by decide)))
  have f12 := f5.other Wr9 (Or.inr (slot_ne (Or.inr (W157 hw)) (Or.inr (W155 hw)) (by decide) (t := (.object "java/lang/String")) (t' := (.object "java/lang/String")) (by decide) (by decide)))
  have f13 := f6.other Wr9 (Or.inr (slot_ne (Or.inr (W159 hw)) (Or.inr (W155 hw)) (by decide) (t := (.object "java/lang/String")) (t' := (.object "java/lang/String")) (by decide) (by decide)))
  have f14 := f7.other Wr9 (Or.inr (slot_ne (Or.inr (W161 hw)) (Or.inr (W155 hw)) (by decide) (t := (.object "java/lang/String")) (t' := (.object "java/lang/String")) (by decide) (by decide)))
  refine C9.aL (Y27 8 rfl) rfl rfl (C9.aL (Y27 9 rfl) rfl hv2 ?_)
  have f15 := (f8.keep K9)
  refine C9.putF (v := v2) (wd hw 156 rfl) f12 f15 (Or.inr ⟨(W157 hw), rfl, rfl⟩) (W114 hw) (ty := (.object "java/lang/String")) (by decide) (own_nar_ref hv2) (own_fits_ref hv2) zg0 (Safe.exa C9.warm.alike f15 (by decide) (by decide)) (Y27 10 rfl) (pc' := 19) rfl ?_
  intro T16 h16 C16 K16 A16 Wr16
  have f17 := f12.same Wr16
  have f18 := f11.other Wr16 (Or.inr (slot_ne (Or.inr (W153 hw)) (Or.inr (W157 hw)) (by decide) (t := (.object "java/lang/String")) (t' := (.object "java/lang/String")) (by decide) (by decide)))
  have f19 := f10.other Wr16 (Or.inr (slot_ne (Or.inr (W155 hw)) (Or.inr (W157 hw)) (by decide) (t := (.object "java/lang/String")) (t' := (.object "java/lang/String")) (by decide) (by decide)))
  have f20 := f13.other Wr16 (Or.inr (slot_ne (Or.inr (W159 hw)) (Or.inr (W157 hw)) (by decide) (t := (.object "java/lang/String")) (t' := (.object "java/lang/String")) (by decide) (by decide)))
  have f21 := f14.other Wr16 (Or.inr (slot_ne (Or.inr (W161 hw)) (Or.inr (W157 hw)) (by decide) (t := (.object "java/lang/String")) (t' := (.object "java/lang/String")) (by decide) (by decide)))
  refine C16.aL (Y27 11 rfl) rfl rfl (C16.aLk (Y27 12 rfl) rfl hv3 ?_)
  have f22 := (f15.keep K16)
  refine C16.putF (v := v3) (W158 hw) f20 f22 (Or.inr ⟨(W159 hw), rfl, rfl⟩) (W114 hw) (ty := (.object "java/lang/String")) (by decide) (own_nar_ref hv3) (own_fits_ref hv3) zg0 (Safe.exa C16.warm.alike f22 (by decide) (by decide)) (Y27 13 rfl) (pc' := 25) rfl ?_
  intro T23 h23 C23 K23 A23 Wr23
  have f24 := f20.same Wr23
  have f25 := f18.other Wr23 (Or.inr (slot_ne (Or.inr (W153 hw)) (Or.inr (W159 hw)) (by decide) (t := (.object "java/lang/String")) (t' := (.object "java/lang/String")) (by decide) (by decide)))
  have f26 := f19.other Wr23 (Or.inr (slot_ne (Or.inr (W155 hw)) (Or.inr (W159 hw)) (by decide) (t := (.object "java/lang/String")) (t' := (.object "java/lang/String")) (by decide) (by decide)))
  have f27 := f17.other Wr23 (Or.inr (slot_ne (Or.inr (W157 hw)) (Or.inr (W159 hw)) (by decide) (t := (.object "java/lang/String")) (t' := (.object "java/lang/String")) (by decide) (by decide)))
  have f28 := f21.other Wr23 (Or.inr (slot_ne (Or.inr (W161 hw)) (Or.inr (W159 hw)) (by decide) (t := (.object "java/lang/String")) (t' := (.object "java/lang/String")) (by decide) (by decide)))
  refine C23.aL (Y27 14 rfl) rfl rfl (C23.aLk (Y27 15 rfl) rfl hv4 ?_)
  have f29 := (f22.keep K23)
  refine C23.putF (v := v4) (wd hw 160 rfl) f28 f29 (Or.inr ⟨(W161 hw), rfl, rfl⟩) (W114 hw) (ty := (.object "java/lang/String")) (by decide) (own_nar_ref hv4) (own_fits_ref hv4) zg0 (Safe.exa C23.warm.alike f29 (by decide) (by decide)) (Y27 16 rfl) (pc' := 31) rfl ?_
  intro T30 h30 C30 K30 A30 Wr30
  have f31 := f28.same Wr30
  have f32 := f25.other Wr30 (Or.inr (slot_ne (Or.inr (W153 hw)) (Or.inr (W161 hw)) (by decide) (t := (.object "java/lang/String")) (t' := (.object "java/lang/String")) (by decide) (by decide)))
  have f33 := f26.other Wr30 (Or.inr (slot_ne (Or.inr (W155 hw)) (Or.inr (W161 hw)) (by decide) (t := (.object "java/lang/String")) (t' := (.object "java/lang/String")) (by decide) (by decide)))
  have f34 := f27.other Wr30 (Or.inr (slot_ne (Or.inr (W157 hw)) (Or.inr (W161 hw)) (by decide) (t := (.object "java/lang/String")) (t' := (.object "java/lang/String")) (by decide) (by decide)))
  have f35 := f24.other Wr30 (Or.inr (slot_ne (Or.inr (W159 hw)) (Or.inr (W161 hw)) (by decide) (t := (.object "java/lang/String")) (t' := (.object "java/lang/String")) (by decide) (by decide)))
  have KK36 := (kT (kT (kT (kT (kT (kR h [a]) K2 (allS m0 all0)) K9 (allS m0 all0)) K16 (allS m0 all0)) K23 (allS m0 all0)) K30 (allS m0 all0))
  have f37 := (f29.keep K30)
  exact C30.retV (Y27 17 rfl) (by decide) (by decide) ⟨rfl, KK36, f37, f32, f33, f34, f35, f31⟩
theorem rm_biInit (G : Glob Z a0 EL) (a : Addr) (v0 : Value) (hv0 : v0.isRef = true) (v1 : Value) (hv1 : v1.isRef = true) (h : Heap) (O : Ext Z.heap h) (E0 : Exa Z h a "com/example/quadrille/quadrille/rdf/BaseIri") (F0 : Fld Z h a "com/example/quadrille/quadrille/rdf/BaseIri" "iri" "Ljava/lang/String;" .null) (F1 : Fld Z h a "com/example/quadrille/quadrille/rdf/BaseIri" "base" "Lcom/example/quadrille/quadrille/rdf/BaseIri$Components;" .null) (zg0 : Z.heap.size ≤ a) :
    Met l Z EL true ⟨"com/example/quadrille/quadrille/rdf/BaseIri", "<init>", "(Ljava/lang/String;Lcom/example/quadrille/quadrille/rdf/BaseIri$Components;)V"⟩ prog_3_method_1_code 3 none [] ⟨1, 0, 0, 12⟩ #[(.ref a), v0, v1] h [] (fun r h' => r = none ∧ Keep h h' [a] ∧ Exa Z h' a "com/example/quadrille/quadrille/rdf/BaseIri" ∧ Fld Z h' a "com/example/quadrille/quadrille/rdf/BaseIri" "iri" "Ljava/lang/String;" v0 ∧ Fld Z h' a "com/example/quadrille/quadrille/rdf/BaseIri" "base" "Lcom/example/quadrille/quadrille/rdf/BaseIri$Components;" v1) := by
  have hw := G.hw
  obtain ⟨vo, So, hvo⟩ := G.fo
  refine Met.of (plainFor_of_name pn_617365497269_0) G.ew O ?_
  intro p e s m below meth c T0 C0 S0
  refine Endw.eq (g' := mkF m 0 #[.val (.ref a), .val v0, .val v1] []) (by first | rfl | (simp [entryFrame, mkF, argsToLocals, own_cI, own_cR, own_cN, own_cJ, own_cD, maxLocals, XT.cat1 hv0, XT.cat1 hv1]; done)) ?_
  refine C0.aL (Y28 0 rfl) rfl rfl ?_
  refine C0.initO (wd hw 168 rfl) (W19 hw) (W20 hw) rfl (Y28 1 rfl) (pc' := 4) rfl (by decide) (W := 0) (nb rfl) (by decide) ?_
  intro T1 C1
  refine C1.aL (Y28 2 rfl) rfl rfl (C1.aL (Y28 3 rfl) rfl hv0 ?_)
  refine C1.putF (v := v0) (wd hw 169 rfl) F0 E0 (Or.inr ⟨(wd hw 170 rfl), rfl, rfl⟩) (wd hw 164 rfl) (ty := (.object "java/lang/String")) (by decide) (own_nar_ref hv0) (own_fits_ref hv0) zg0 (Safe.exa C1.warm.alike E0 (by decide) (by decide)) (Y28 4 rfl) (pc' := 9) rfl ?_
  intro T2 h2 C2 K2 A2 Wr2
  have f3 := F0.same Wr2
  have f4 := F1.other Wr2 (Or.inr (slot_ne (Or.inr (wd hw 172 rfl)) (Or.inr (wd hw 170 rfl)) (by decide) (t := (.object "com/example/quadrille/quadrille/rdf/BaseIri$Components")) (t' := (.object "java/lang/String")) (by decide) (by decide)))
  refine C2.aL (Y28 5 rfl) rfl rfl (C2.aL (Y28 6 rfl) rfl hv1 ?_)
  have f5 := (E0.keep K2)
  refine C2.putF (v := v1) (W171 hw) f4 f5 (Or.inr ⟨(wd hw 172 rfl), rfl, rfl⟩) (wd hw 164 rfl) (ty := (.object "com/example/quadrille/quadrille/rdf/BaseIri$Components")) (by decide) (own_nar_ref hv1) (own_fits_ref hv1) zg0 (Safe.exa C2.warm.alike f5 (by decide) (by decide)) (Y28 7 rfl) (pc' := 14) rfl ?_
  intro T6 h6 C6 K6 A6 Wr6
  have f7 := f4.same Wr6
  have f8 := f3.other Wr6 (Or.inr (slot_ne (Or.inr (wd hw 170 rfl)) (Or.inr (wd hw 172 rfl)) (by decide) (t := (.object "java/lang/String")) (t' := (.object "com/example/quadrille/quadrille/rdf/BaseIri$Components")) (by decide) (by decide)))
  have KK9 := (kT (kT (kR h [a]) K2 (allS m0 all0)) K6 (allS m0 all0))
  have f10 := (f5.keep K6)
  exact C6.retV (Y28 8 rfl) (by decide) (by decide) ⟨rfl, KK9, f10, f8, f7⟩
theorem rm_cof (G : Glob Z a0 EL) (a t : Addr) (kb : ClassId) (cs : List Int32) (h : Heap) (O : Ext Z.heap h) (S : Str Z h a t kb cs) (h6 : cs.length ≤ 6) :
    Met l Z EL false ⟨"com/example/quadrille/quadrille/rdf/BaseIri$Components", "of", "(Ljava/lang/String;)Lcom/example/quadrille/quadrille/rdf/BaseIri$Components;"⟩ prog_4_method_2_code 11 (some (.object "com/example/quadrille/quadrille/rdf/BaseIri$Components")) [] ⟨6, 25, 149, 99⟩ #[(.ref a)] h [] (fun r h' => ∃ x : Addr, r = some (.ref x) ∧ Keep h h' [] ∧ h.size ≤ x ∧ Z.heap.size ≤ x ∧ Cmp Z h' x (own_sch cs) (own_aut cs) (own_pth cs) (own_qry cs) (own_frg cs)) := by
  have hw := G.hw
  obtain ⟨vo, So, hvo⟩ := G.fo
  refine Met.of (plainFor_of_name pn_6f6e656e7473_1) G.ew O ?_
  intro p e s m below meth c T0 C0 S0
  refine Endw.eq (g' := mkF m 0 #[.val (.ref a), .unset, .unset, .unset, .unset, .unset, .unset, .unset, .unset, .unset, .unset] []) rfl ?_
  have b35 := own_ix_le 35 cs
  have b63 := own_ix_le 63 cs
  have bq := own_qm_fm cs
  have bs := own_se_le cs
  have bh := own_hs_le cs
  have bp := own_ps_le cs
  have J184 : ∀ (z1 : Int32) (fm : Nat) (qm : Nat) (se : Nat) (d : Int32) (hs : Nat) (ps : Nat) (v8 : Value) (l3 : Slot) (l10 : Slot) (vm : Vm) (T : State) (hh : Heap), (fm = own_ix 35 cs) → ((fm < cs.length ∧ z1 = Int32.ofNat fm) ∨ (fm = cs.length ∧ z1 = -1)) → (qm = own_qm cs) → (se = own_se cs) → ((d = 1 ∧ own_hsB cs ∧ hs = se + 1) ∨ (d = 0 ∧ ¬ own_hsB cs ∧ hs = 0)) → (ps = own_ps cs) → (OS Z hh v8 (own_aut cs)) → (Keep h hh []) → (CHr Z EL s.vm h vm hh) → Core p l e ⟨6, 25, 149, 99⟩ s m #[(.ref a)] below meth c prog_4_method_2_code 11 (some (.object "com/example/quadrille/quadrille/rdf/BaseIri$Components")) "of" "com/example/quadrille/quadrille/rdf/BaseIri$Components" Z a0 EL false vm T hh 16 96 → Endw p e below T (mkF m 184 #[.val (.ref a), .val (.int z1), .val (.int (Int32.ofNat fm)), l3, .val (.int (Int32.ofNat qm)), .val (.int (Int32.ofNat se)), .val (.int d), .val (.int (Int32.ofNat hs)), .val v8, .val (.int (Int32.ofNat ps)), l10] []) (Fin s Z EL false (fun r h' => ∃ x : Addr, r = some (.ref x) ∧ Keep h h' [] ∧ h.size ≤ x ∧ Z.heap.size ≤ x ∧ Cmp Z h' x (own_sch cs) (own_aut cs) (own_pth cs) (own_qry cs) (own_frg cs)) (({ frames := 6, cells := 25, slots := 149, locals := 99 } : Room)).cells (({ frames := 6, cells := 25, slots := 149, locals := 99 } : Room)).slots) := by
    intro z1 fm qm se d hs ps v8 l3 l10 vm T hh hfm hz hqm hse hd hps hv8 K A C
    rcases hd with ⟨rfl, hB, ehs⟩ | ⟨rfl, hB, ehs⟩
    · show Endw p e below T (mkF m 184 #[.val (.ref a), .val (.int z1), .val (.int (Int32.ofNat fm)), l3, .val (.int (Int32.ofNat qm)), .val (.int (Int32.ofNat se)), .val (.int 1), .val (.int (Int32.ofNat hs)), .val v8, .val (.int (Int32.ofNat ps)), l10] []) _
      rcases hz with ⟨hlt, rfl⟩ | ⟨hge, rfl⟩
      · show Endw p e below T (mkF m 184 #[.val (.ref a), .val (.int (Int32.ofNat fm)), .val (.int (Int32.ofNat fm)), l3, .val (.int (Int32.ofNat qm)), .val (.int (Int32.ofNat se)), .val (.int 1), .val (.int (Int32.ofNat hs)), .val v8, .val (.int (Int32.ofNat ps)), l10] []) _
        refine C.new (W113 hw) (W114 hw) (W43 hw) (Y29 92 rfl) (pc' := 187) rfl (by decide) (by decide) ?_
        intro T1 h1 a1 C1 K1 A1 ge1 zg1 E1 D1 S1
        refine C1.du (Y29 93 rfl) rfl (C1.iLk (Y29 94 rfl) rfl (C1.fN (Y29 95 rfl) (XT.i0_eq_f (by decide)) (C1.aL (Y29 96 rfl) rfl rfl (C1.ic (z := 0) (Y29 97 rfl) rfl (C1.iLk (Y29 98 rfl) rfl ?_)))))
        have KK2 := (kT (kT (kR h []) K all0) K1 all0)
        have f3 := (S.keep KK2 nin0 nin0)
        have f5 := (S.1.keep KK2)
        refine C1.virtual (W := 2) (W115 hw) (W116 hw) (fun _ q => notFace_of_selects (args := #[]) (mvT q (W118 hw))) (W118 hw) (W117 hw) (W119 hw) (W10 hw) (by decide) (rm_sub l Z a0 EL G a t kb cs 0 se h1 C1.old f3 (by omega) (by omega) (by omega)) (fun z => nomatch z) rfl f5 all0 (by decide) (by decide) (by decide) (by decide) (lenOf pd_16 rfl) rfl (nb rfl) rfl (Y29 99 rfl) (pc' := 200) rfl ?_
        intro vm4 T4 h4 v4 C4 A4 M4 q4
        obtain ⟨x4, d4, kd4, rfl, K4, Z4⟩ := q4
        refine C4.go (pc' := 204) (Y29 100 rfl) (by decide) rfl (C4.aLk (Y29 102 rfl) rfl (OS.ref hv8) (C4.aL (Y29 103 rfl) rfl rfl (C4.iLk (Y29 104 rfl) rfl (C4.iLk (Y29 105 rfl) rfl ?_))))
        have f6 := (f3.keep K4 nin0 nin0)
        have f8 := (f5.keep K4)
        refine C4.virtual (W := 4) (W115 hw) (W116 hw) (fun _ q => notFace_of_selects (args := #[]) (mvT q (W118 hw))) (W118 hw) (W117 hw) (W119 hw) (W10 hw) (by decide) (rm_sub l Z a0 EL G a t kb cs ps qm h4 C4.old f6 (by omega) (by omega) (by omega)) (fun z => nomatch z) rfl f8 all0 (by decide) (by decide) (by decide) (by decide) (lenOf pd_16 rfl) rfl (by simp [own_cI, own_cR, own_cN, own_cJ, own_cD, XT.cat1 (OS.ref hv8)]) rfl (Y29 106 rfl) (pc' := 214) rfl ?_
        intro vm7 T7 h7 v7 C7 A7 M7 q7
        obtain ⟨x7, d7, kd7, rfl, K7, Z7⟩ := q7
        refine C7.iLk (Y29 107 rfl) rfl (C7.iL (Y29 108 rfl) rfl ?_)
        by_cases c9 : (Int32.ofNat qm) < (Int32.ofNat fm)
        · refine C7.cN (Y29 109 rfl) (XT.ii_ge_f c9) (C7.aL (Y29 110 rfl) rfl rfl (C7.iLk (Y29 111 rfl) rfl (C7.ic (z := 1) (Y29 112 rfl) rfl (C7.ad (z := ((Int32.ofNat qm) + (1 : Int32))) (Y29 113 rfl) rfl ?_))))
          rw [show ((Int32.ofNat qm) + (1 : Int32)) = (Int32.ofNat (qm + 1)) from own_inc _]
          refine C7.iL (Y29 114 rfl) rfl ?_
          have f10 := (f6.keep K7 nin0 nin0)
          have f12 := (f8.keep K7)
          refine C7.virtual (W := 5) (W115 hw) (W116 hw) (fun _ q => notFace_of_selects (args := #[]) (mvT q (W118 hw))) (W118 hw) (W117 hw) (W119 hw) (W10 hw) (by decide) (rm_sub l Z a0 EL G a t kb cs (qm + 1) fm h7 C7.old f10 (by have := (own_lt (by omega) (by omega)).mp c9; omega) (by omega) (by omega)) (fun z => nomatch z) rfl f12 all0 (by decide) (by decide) (by decide) (by decide) (lenOf pd_16 rfl) rfl (by simp [own_cI, own_cR, own_cN, own_cJ, own_cD, XT.cat1 (OS.ref hv8)]) rfl (Y29 115 rfl) (pc' := 229) rfl ?_
          intro vm11 T11 h11 v11 C11 A11 M11 q11
          obtain ⟨x11, d11, kd11, rfl, K11, Z11⟩ := q11
          refine C11.go (pc' := 233) (Y29 116 rfl) (by decide) rfl (C11.iL (Y29 118 rfl) rfl (C11.fN (Y29 119 rfl) (XT.i0_lt_f (own_nn (by omega))) (C11.aL (Y29 120 rfl) rfl rfl (C11.iL (Y29 121 rfl) rfl (C11.ic (z := 1) (Y29 122 rfl) rfl (C11.ad (z := ((Int32.ofNat fm) + (1 : Int32))) (Y29 123 rfl) rfl ?_))))))
          rw [show ((Int32.ofNat fm) + (1 : Int32)) = (Int32.ofNat (fm + 1)) from own_inc _]
          have f13 := (f10.keep K11 nin0 nin0)
          have f15 := (f12.keep K11)
          refine C11.virtual (W := 6) (wd hw 378 rfl) (wd hw 379 rfl) (fun _ q => notFace_of_selects (args := #[]) (mvT q (W381 hw))) (W381 hw) (wd hw 380 rfl) (wd hw 382 rfl) (W10 hw) (by decide) (rm_sub1 l Z a0 EL G a t kb cs (fm + 1) h11 C11.old f13 (by omega) (by omega)) (fun z => nomatch z) rfl f15 all0 (by decide) (by decide) (by decide) (by decide) (lenOf pd_12 rfl) rfl (by simp [own_cI, own_cR, own_cN, own_cJ, own_cD, XT.cat1 (OS.ref hv8)]) rfl (Y29 124 rfl) (pc' := 244) rfl ?_
          intro vm14 T14 h14 v14 C14 A14 M14 q14
          obtain ⟨x14, d14, kd14, rfl, K14, Z14⟩ := q14
          refine C14.go (pc' := 248) (Y29 125 rfl) (by decide) rfl ?_
          have f16 : Fld Z h1 a1 "com/example/quadrille/quadrille/rdf/BaseIri$Components" "scheme" "Ljava/lang/String;" .null := D1 (Or.inr (W153 hw)) (ty := (.object "java/lang/String")) (by decide)
          have KK17 := (kT (kT (kT (kT (kR h1 []) K4 all0) K7 all0) K11 all0) K14 all0)
          have f18 := (f16.keep KK17 nin0)
          have f19 : Fld Z h1 a1 "com/example/quadrille/quadrille/rdf/BaseIri$Components" "authority" "Ljava/lang/String;" .null := D1 (Or.inr (W155 hw)) (ty := (.object "java/lang/String")) (by decide)
          have f20 := (f19.keep KK17 nin0)
          have f21 : Fld Z h1 a1 "com/example/quadrille/quadrille/rdf/BaseIri$Components" "path" "Ljava/lang/String;" .null := D1 (Or.inr (W157 hw)) (ty := (.object "java/lang/String")) (by decide)
          have f22 := (f21.keep KK17 nin0)
          have f23 : Fld Z h1 a1 "com/example/quadrille/quadrille/rdf/BaseIri$Components" "query" "Ljava/lang/String;" .null := D1 (Or.inr (W159 hw)) (ty := (.object "java/lang/String")) (by decide)
          have f24 := (f23.keep KK17 nin0)
          have f25 : Fld Z h1 a1 "com/example/quadrille/quadrille/rdf/BaseIri$Components" "fragment" "Ljava/lang/String;" .null := D1 (Or.inr (W161 hw)) (ty := (.object "java/lang/String")) (by decide)
          have f26 := (f25.keep KK17 nin0)
          have f27 := (E1.keep KK17)
          refine C14.special (y := ⟨"com/example/quadrille/quadrille/rdf/BaseIri$Components", "<init>", "(Ljava/lang/String;Ljava/lang/String;Ljava/lang/String;Ljava/lang/String;Ljava/lang/String;)V"⟩) (W := 1) rfl (W148 hw) (W149 hw) (W150 hw) (W43 hw) (by decide) (rm_coInit l Z a0 EL G a1 (.ref x4) rfl v8 (OS.ref hv8) (.ref x7) rfl (.ref x11) rfl (.ref x14) rfl h14 C14.old f27 f18 f20 f22 f24 f26 zg1) (fun _ => rfl) rfl all0 (by decide) (by decide) (by decide) (by decide) (lenOf pd_38 rfl) rfl (nb rfl) rfl (Y29 127 rfl) (pc' := 251) rfl ?_
          intro vm28 T28 h28 v28 C28 A28 M28 q28
          obtain ⟨rfl, K28, E28, F28_0, F28_1, F28_2, F28_3, F28_4⟩ := q28
          have KK29 := (kT (kT (kT (kR h7 [a1]) K11 all0) K14 all0) K28 (allS m0 all0))
          have KK30 := (kT (kT (kR h1 []) K4 all0) K7 all0)
          have ne31 : x7 ≠ a1 := (RoadKit.Exa.ne Z7.1 (E1.keep KK30) (by decide))
          have ne32 : d7 ≠ a1 := (Ne.symm (RoadKit.Exa.neArv (E1.keep KK30) Z7.2.2.2.1 (W114 hw)))
          have f33 := (Z7.keep KK29 (ninS ne31 nin0) (ninS ne32 nin0))
          have KK34 := (kT (kT (kT (kT (kR h4 [a1]) K7 all0) K11 all0) K14 all0) K28 (allS m0 all0))
          have ne35 : x4 ≠ a1 := (RoadKit.Exa.ne Z4.1 (E1.keep K4) (by decide))
          have ne36 : d4 ≠ a1 := (Ne.symm (RoadKit.Exa.neArv (E1.keep K4) Z4.2.2.2.1 (W114 hw)))
          have f37 := (Z4.keep KK34 (ninS ne35 nin0) (ninS ne36 nin0))
          have KK38 := (kT (kT (kR h11 [a1]) K14 all0) K28 (allS m0 all0))
          have KK39 := (kT KK30 K11 all0)
          have ne40 : x11 ≠ a1 := (RoadKit.Exa.ne Z11.1 (E1.keep KK39) (by decide))
          have ne41 : d11 ≠ a1 := (Ne.symm (RoadKit.Exa.neArv (E1.keep KK39) Z11.2.2.2.1 (W114 hw)))
          have f42 := (Z11.keep KK38 (ninS ne40 nin0) (ninS ne41 nin0))
          have ne43 : x14 ≠ a1 := (RoadKit.Exa.ne Z14.1 (E1.keep KK17) (by decide))
          have ne44 : d14 ≠ a1 := (Ne.symm (RoadKit.Exa.neArv (E1.keep KK17) Z14.2.2.2.1 (W114 hw)))
          have f45 := (Z14.keep K28 (ninS ne43 nin0) (ninS ne44 nin0))
          have KK46 := (kT (kT (kT (kT (kT KK2 K4 all0) K7 all0) K11 all0) K14 all0) K28 (allS (Or.inr (lT K.1 ge1)) all0))
          have f47 := (hv8.keep (kT (kT (kT (kT (kT (kT (kR hh []) K1 all0) K4 all0) K7 all0) K11 all0) K14 all0) K28 (allS (Or.inr ge1) all0)))
          exact C28.retA (t := (.object "com/example/quadrille/quadrille/rdf/BaseIri$Components")) rfl rfl rfl rfl (Y29 128 rfl) (by decide) (by decide) ⟨a1, rfl, KK46, (lT K.1 ge1), zg1, (.ref x4), v8, x7, d7, kd7, (.ref x11), (.ref x14), E28, F28_0, F28_1, F28_2, F28_3, F28_4, (by rw [own_sch, if_pos hB, ← hse]; exact OS.mk f37), f47, (by rw [own_pth, ← hps, ← hqm]; exact f33), (by rw [own_qry, if_pos (by rw [← hqm, ← hfm]; exact (own_lt (by omega) (by omega)).mp c9), ← hqm, ← hfm]; exact OS.mk f42), (by rw [own_frg, if_pos (by rw [← hfm]; exact hlt), ← hfm]; exact OS.mk f45)⟩
        · refine C7.cY (pc' := 232) (Y29 109 rfl) (XT.ii_ge_t c9) (by decide) rfl (C7.nu (Y29 117 rfl) (C7.iL (Y29 118 rfl) rfl (C7.fN (Y29 119 rfl) (XT.i0_lt_f (own_nn (by omega))) (C7.aL (Y29 120 rfl) rfl rfl (C7.iL (Y29 121 rfl) rfl (C7.ic (z := 1) (Y29 122 rfl) rfl (C7.ad (z := ((Int32.ofNat fm) + (1 : Int32))) (Y29 123 rfl) rfl ?_)))))))
          rw [show ((Int32.ofNat fm) + (1 : Int32)) = (Int32.ofNat (fm + 1)) from own_inc _]
          have f48 := (f6.keep K7 nin0 nin0)
          have f50 := (f8.keep K7)
          refine C7.virtual (W := 6) (wd hw 378 rfl) (wd hw 379 rfl) (fun _ q => notFace_of_selects (args := #[]) (mvT q (W381 hw))) (W381 hw) (wd hw 380 rfl) (wd hw 382 rfl) (W10 hw) (by decide) (rm_sub1 l Z a0 EL G a t kb cs (fm + 1) h7 C7.old f48 (by omega) (by omega)) (fun z => nomatch z) rfl f50 all0 (by decide) (by decide) (by decide) (by decide) (lenOf pd_12 rfl) rfl (by simp [own_cI, own_cR, own_cN, own_cJ, own_cD, XT.cat1 (OS.ref hv8)]) rfl (Y29 124 rfl) (pc' := 244) rfl ?_
          intro vm49 T49 h49 v49 C49 A49 M49 q49
          obtain ⟨x49, d49, kd49, rfl, K49, Z49⟩ := q49
          refine C49.go (pc' := 248) (Y29 125 rfl) (by decide) rfl ?_
          have f51 : Fld Z h1 a1 "com/example/quadrille/quadrille/rdf/BaseIri$Components" "scheme" "Ljava/lang/String;" .null := D1 (Or.inr (W153 hw)) (ty := (.object "java/lang/String")) (by decide)
          have KK52 := (kT (kT (kT (kR h1 []) K4 all0) K7 all0) K49 all0)
          have f53 := (f51.keep KK52 nin0)
          have f54 : Fld Z h1 a1 "com/example/quadrille/quadrille/rdf/BaseIri$Components" "authority" "Ljava/lang/String;" .null := D1 (Or.inr (W155 hw)) (ty := (.object "java/lang/String")) (by decide)
          have f55 := (f54.keep KK52 nin0)
          have f56 : Fld Z h1 a1 "com/example/quadrille/quadrille/rdf/BaseIri$Components" "path" "Ljava/lang/String;" .null := D1 (Or.inr (W157 hw)) (ty := (.object "java/lang/String")) (by decide)
          have f57 := (f56.keep KK52 nin0)
          have f58 : Fld Z h1 a1 "com/example/quadrille/quadrille/rdf/BaseIri$Components" "query" "Ljava/lang/String;" .null := D1 (Or.inr (W159 hw)) (ty := (.object "java/lang/String")) (by decide)
          have f59 := (f58.keep KK52 nin0)
          have f60 : Fld Z h1 a1 "com/example/quadrille/quadrille/rdf/BaseIri$Components" "fragment" "Ljava/lang/String;" .null := D1 (Or.inr (W161 hw)) (ty := (.object "java/lang/String")) (by decide)
          have f61 := (f60.keep KK52 nin0)
          have f62 := (E1.keep KK52)
          refine C49.special (y := ⟨"com/example/quadrille/quadrille/rdf/BaseIri$Components", "<init>", "(Ljava/lang/String;Ljava/lang/String;Ljava/lang/String;Ljava/lang/String;Ljava/lang/String;)V"⟩) (W := 1) rfl (W148 hw) (W149 hw) (W150 hw) (W43 hw) (by decide) (rm_coInit l Z a0 EL G a1 (.ref x4) rfl v8 (OS.ref hv8) (.ref x7) rfl .null rfl (.ref x49) rfl h49 C49.old f62 f53 f55 f57 f59 f61 zg1) (fun _ => rfl) rfl all0 (by decide) (by decide) (by decide) (by decide) (lenOf pd_38 rfl) rfl (nb rfl) rfl (Y29 127 rfl) (pc' := 251) rfl ?_
          intro vm63 T63 h63 v63 C63 A63 M63 q63
          obtain ⟨rfl, K63, E63, F63_0, F63_1, F63_2, F63_3, F63_4⟩ := q63
          have KK64 := (kT (kT (kR h7 [a1]) K49 all0) K63 (allS m0 all0))
          have KK65 := (kT (kT (kR h1 []) K4 all0) K7 all0)
          have ne66 : x7 ≠ a1 := (RoadKit.Exa.ne Z7.1 (E1.keep KK65) (by decide))
          have ne67 : d7 ≠ a1 := (Ne.symm (RoadKit.Exa.neArv (E1.keep KK65) Z7.2.2.2.1 (W114 hw)))
          have f68 := (Z7.keep KK64 (ninS ne66 nin0) (ninS ne67 nin0))
          have KK69 := (kT (kT (kT (kR h4 [a1]) K7 all0) K49 all0) K63 (allS m0 all0))
          have ne70 : x4 ≠ a1 := (RoadKit.Exa.ne Z4.1 (E1.keep K4) (by decide))
          have ne71 : d4 ≠ a1 := (Ne.symm (RoadKit.Exa.neArv (E1.keep K4) Z4.2.2.2.1 (W114 hw)))
          have f72 := (Z4.keep KK69 (ninS ne70 nin0) (ninS ne71 nin0))
          have ne73 : x49 ≠ a1 := (RoadKit.Exa.ne Z49.1 (E1.keep KK52) (by decide))
          have ne74 : d49 ≠ a1 := (Ne.symm (RoadKit.Exa.neArv (E1.keep KK52) Z49.2.2.2.1 (W114 hw)))
          have f75 := (Z49.keep K63 (ninS ne73 nin0) (ninS ne74 nin0))
          have KK76 := (kT (kT (kT (kT KK2 K4 all0) K7 all0) K49 all0) K63 (allS (Or.inr (lT K.1 ge1)) all0))
          have f77 := (hv8.keep (kT (kT (kT (kT (kT (kR hh []) K1 all0) K4 all0) K7 all0) K49 all0) K63 (allS (Or.inr ge1) all0)))
          exact C63.retA (t := (.object "com/example/quadrille/quadrille/rdf/BaseIri$Components")) rfl rfl rfl rfl (Y29 128 rfl) (by decide) (by decide) ⟨a1, rfl, KK76, (lT K.1 ge1), zg1, (.ref x4), v8, x7, d7, kd7, .null, (.ref x49), E63, F63_0, F63_1, F63_2, F63_3, F63_4, (by rw [own_sch, if_pos hB, ← hse]; exact OS.mk f72), f77, (by rw [own_pth, ← hps, ← hqm]; exact f68), (by rw [own_qry, if_neg (fun q => c9 ((own_lt (by omega) (by omega)).mpr (by rw [← hqm, ← hfm] at q; exact q)))]; exact OS.nil), (by rw [own_frg, if_pos (by rw [← hfm]; exact hlt), ← hfm]; exact OS.mk f75)⟩
      · show Endw p e below T (mkF m 184 #[.val (.ref a), .val (.int (-1)), .val (.int (Int32.ofNat fm)), l3, .val (.int (Int32.ofNat qm)), .val (.int (Int32.ofNat se)), .val (.int 1), .val (.int (Int32.ofNat hs)), .val v8, .val (.int (Int32.ofNat ps)), l10] []) _
        refine C.new (W113 hw) (W114 hw) (W43 hw) (Y29 92 rfl) (pc' := 187) rfl (by decide) (by decide) ?_
        intro T78 h78 a78 C78 K78 A78 ge78 zg78 E78 D78 S78
        refine C78.du (Y29 93 rfl) rfl (C78.iLk (Y29 94 rfl) rfl (C78.fN (Y29 95 rfl) (XT.i0_eq_f (by decide)) (C78.aL (Y29 96 rfl) rfl rfl (C78.ic (z := 0) (Y29 97 rfl) rfl (C78.iLk (Y29 98 rfl) rfl ?_)))))
        have KK79 := (kT (kT (kR h []) K all0) K78 all0)
        have f80 := (S.keep KK79 nin0 nin0)
        have f82 := (S.1.keep KK79)
        refine C78.virtual (W := 2) (W115 hw) (W116 hw) (fun _ q => notFace_of_selects (args := #[]) (mvT q (W118 hw))) (W118 hw) (W117 hw) (W119 hw) (W10 hw) (by decide) (rm_sub l Z a0 EL G a t kb cs 0 se h78 C78.old f80 (by omega) (by omega) (by omega)) (fun z => nomatch z) rfl f82 all0 (by decide) (by decide) (by decide) (by decide) (lenOf pd_16 rfl) rfl (nb rfl) rfl (Y29 99 rfl) (pc' := 200) rfl ?_
        intro vm81 T81 h81 v81 C81 A81 M81 q81
        obtain ⟨x81, d81, kd81, rfl, K81, Z81⟩ := q81
        refine C81.go (pc' := 204) (Y29 100 rfl) (by decide) rfl (C81.aLk (Y29 102 rfl) rfl (OS.ref hv8) (C81.aL (Y29 103 rfl) rfl rfl (C81.iLk (Y29 104 rfl) rfl (C81.iLk (Y29 105 rfl) rfl ?_))))
        have f83 := (f80.keep K81 nin0 nin0)
        have f85 := (f82.keep K81)
        refine C81.virtual (W := 4) (W115 hw) (W116 hw) (fun _ q => notFace_of_selects (args := #[]) (mvT q (W118 hw))) (W118 hw) (W117 hw) (W119 hw) (W10 hw) (by decide) (rm_sub l Z a0 EL G a t kb cs ps qm h81 C81.old f83 (by omega) (by omega) (by omega)) (fun z => nomatch z) rfl f85 all0 (by decide) (by decide) (by decide) (by decide) (lenOf pd_16 rfl) rfl (by simp [own_cI, own_cR, own_cN, own_cJ, own_cD, XT.cat1 (OS.ref hv8)]) rfl (Y29 106 rfl) (pc' := 214) rfl ?_
        intro vm84 T84 h84 v84 C84 A84 M84 q84
        obtain ⟨x84, d84, kd84, rfl, K84, Z84⟩ := q84
        refine C84.iLk (Y29 107 rfl) rfl (C84.iL (Y29 108 rfl) rfl ?_)
        by_cases c86 : (Int32.ofNat qm) < (Int32.ofNat fm)
        · refine C84.cN (Y29 109 rfl) (XT.ii_ge_f c86) (C84.aL (Y29 110 rfl) rfl rfl (C84.iLk (Y29 111 rfl) rfl (C84.ic (z := 1) (Y29 112 rfl) rfl (C84.ad (z := ((Int32.ofNat qm) + (1 : Int32))) (Y29 113 rfl) rfl ?_))))
          rw [show ((Int32.ofNat qm) + (1 : Int32)) = (Int32.ofNat (qm + 1)) from own_inc _]
          refine C84.iL (Y29 114 rfl) rfl ?_
          have f87 := (f83.keep K84 nin0 nin0)
          have f89 := (f85.keep K84)
          refine C84.virtual (W := 5) (W115 hw) (W116 hw) (fun _ q => notFace_of_selects (args := #[]) (mvT q (W118 hw))) (W118 hw) (W117 hw) (W119 hw) (W10 hw) (by decide) (rm_sub l Z a0 EL G a t kb cs (qm + 1) fm h84 C84.old f87 (by have := (own_lt (by omega) (by omega)).mp c86; omega) (by omega) (by omega)) (fun z => nomatch z) rfl f89 all0 (by decide) (by decide) (by decide) (by decide) (lenOf pd_16 rfl) rfl (by simp [own_cI, own_cR, own_cN, own_cJ, own_cD, XT.cat1 (OS.ref hv8)]) rfl (Y29 115 rfl) (pc' := 229) rfl ?_
          intro vm88 T88 h88 v88 C88 A88 M88 q88
          obtain ⟨x88, d88, kd88, rfl, K88, Z88⟩ := q88
          refine C88.go (pc' := 233) (Y29 116 rfl) (by decide) rfl (C88.iL (Y29 118 rfl) rfl (C88.fY (pc' := 247) (Y29 119 rfl) (XT.i0_lt_t (by decide)) (by decide) rfl (C88.nu (Y29 126 rfl) ?_)))
          have f90 : Fld Z h78 a78 "com/example/quadrille/quadrille/rdf/BaseIri$Components" "scheme" "Ljava/lang/String;" .null := D78 (Or.inr (W153 hw)) (ty := (.object "java/lang/String")) (by decide)
          have KK91 := (kT (kT (kT (kR h78 []) K81 all0) K84 all0) K88 all0)
          have f92 := (f90.keep KK91 nin0)
          have f93 : Fld Z h78 a78 "com/example/quadrille/quadrille/rdf/BaseIri$Components" "authority" "Ljava/lang/String;" .null := D78 (Or.inr (W155 hw)) (ty := (.object "java/lang/String")) (by decide)
          have f94 := (f93.keep KK91 nin0)
          have f95 : Fld Z h78 a78 "com/example/quadrille/quadrille/rdf/BaseIri$Components" "path" "Ljava/lang/String;" .null := D78 (Or.inr (W157 hw)) (ty := (.object "java/lang/String")) (by decide)
          have f96 := (f95.keep KK91 nin0)
          have f97 : Fld Z h78 a78 "com/example/quadrille/quadrille/rdf/BaseIri$Components" "query" "Ljava/lang/String;" .null := D78 (Or.inr (W159 hw)) (ty := (.object "java/lang/String")) (by decide)
          have f98 := (f97.keep KK91 nin0)
          have f99 : Fld Z h78 a78 "com/example/quadrille/quadrille/rdf/BaseIri$Components" "fragment" "Ljava/lang/String;" .null := D78 (Or.inr (W161 hw)) (ty := (.object "java/lang/String")) (by decide)
          have f100 := (f99.keep KK91 nin0)
          have f101 := (E78.keep KK91)
          refine C88.special (y := ⟨"com/example/quadrille/quadrille/rdf/BaseIri$Components", "<init>", "(Ljava/lang/String;Ljava/lang/String;Ljava/lang/String;Ljava/lang/String;Ljava/lang/String;)V"⟩) (W := 1) rfl (W148 hw) (W149 hw) (W150 hw) (W43 hw) (by decide) (rm_coInit l Z a0 EL G a78 (.ref x81) rfl v8 (OS.ref hv8) (.ref x84) rfl (.ref x88) rfl .null rfl h88 C88.old f101 f92 f94 f96 f98 f100 zg78) (fun _ => rfl) rfl all0 (by decide) (by decide) (by decide) (by decide) (lenOf pd_38 rfl) rfl (nb rfl) rfl (Y29 127 rfl) (pc' := 251) rfl ?_
          intro vm102 T102 h102 v102 C102 A102 M102 q102
          obtain ⟨rfl, K102, E102, F102_0, F102_1, F102_2, F102_3, F102_4⟩ := q102
          have KK103 := (kT (kT (kR h84 [a78]) K88 all0) K102 (allS m0 all0))
          have KK104 := (kT (kT (kR h78 []) K81 all0) K84 all0)
          have ne105 : x84 ≠ a78 := (RoadKit.Exa.ne Z84.1 (E78.keep KK104) (by decide))
          have ne106 : d84 ≠ a78 := (Ne.symm (RoadKit.Exa.neArv (E78.keep KK104) Z84.2.2.2.1 (W114 hw)))
          have f107 := (Z84.keep KK103 (ninS ne105 nin0) (ninS ne106 nin0))
          have KK108 := (kT (kT (kT (kR h81 [a78]) K84 all0) K88 all0) K102 (allS m0 all0))
          have ne109 : x81 ≠ a78 := (RoadKit.Exa.ne Z81.1 (E78.keep K81) (by decide))
          have ne110 : d81 ≠ a78 := (Ne.symm (RoadKit.Exa.neArv (E78.keep K81) Z81.2.2.2.1 (W114 hw)))
          have f111 := (Z81.keep KK108 (ninS ne109 nin0) (ninS ne110 nin0))
          have ne112 : x88 ≠ a78 := (RoadKit.Exa.ne Z88.1 (E78.keep KK91) (by decide))
          have ne113 : d88 ≠ a78 := (Ne.symm (RoadKit.Exa.neArv (E78.keep KK91) Z88.2.2.2.1 (W114 hw)))
          have f114 := (Z88.keep K102 (ninS ne112 nin0) (ninS ne113 nin0))
          have KK115 := (kT (kT (kT (kT KK79 K81 all0) K84 all0) K88 all0) K102 (allS (Or.inr (lT K.1 ge78)) all0))
          have f116 := (hv8.keep (kT (kT (kT (kT (kT (kR hh []) K78 all0) K81 all0) K84 all0) K88 all0) K102 (allS (Or.inr ge78) all0)))
          exact C102.retA (t := (.object "com/example/quadrille/quadrille/rdf/BaseIri$Components")) rfl rfl rfl rfl (Y29 128 rfl) (by decide) (by decide) ⟨a78, rfl, KK115, (lT K.1 ge78), zg78, (.ref x81), v8, x84, d84, kd84, (.ref x88), .null, E102, F102_0, F102_1, F102_2, F102_3, F102_4, (by rw [own_sch, if_pos hB, ← hse]; exact OS.mk f111), f116, (by rw [own_pth, ← hps, ← hqm]; exact f107), (by rw [own_qry, if_pos (by rw [← hqm, ← hfm]; exact (own_lt (by omega) (by omega)).mp c86), ← hqm, ← hfm]; exact OS.mk f114), (by rw [own_frg, if_neg (by rw [← hfm]; omega)]; exact OS.nil)⟩
        · refine C84.cY (pc' := 232) (Y29 109 rfl) (XT.ii_ge_t c86) (by decide) rfl (C84.nu (Y29 117 rfl) (C84.iL (Y29 118 rfl) rfl (C84.fY (pc' := 247) (Y29 119 rfl) (XT.i0_lt_t (by decide)) (by decide) rfl (C84.nu (Y29 126 rfl) ?_))))
          have f117 : Fld Z h78 a78 "com/example/quadrille/quadrille/rdf/BaseIri$Components" "scheme" "Ljava/lang/String;" .null := D78 (Or.inr (W153 hw)) (ty := (.object "java/lang/String")) (by decide)
          have KK118 := (kT (kT (kR h78 []) K81 all0) K84 all0)
          have f119 := (f117.keep KK118 nin0)
          have f120 : Fld Z h78 a78 "com/example/quadrille/quadrille/rdf/BaseIri$Components" "authority" "Ljava/lang/String;" .null := D78 (Or.inr (W155 hw)) (ty := (.object "java/lang/String")) (by decide)
          have f121 := (f120.keep KK118 nin0)
          have f122 : Fld Z h78 a78 "com/example/quadrille/quadrille/rdf/BaseIri$Components" "path" "Ljava/lang/String;" .null := D78 (Or.inr (W157 hw)) (ty := (.object "java/lang/String")) (by decide)
          have f123 := (f122.keep KK118 nin0)
          have f124 : Fld Z h78 a78 "com/example/quadrille/quadrille/rdf/BaseIri$Components" "query" "Ljava/lang/String;" .null := D78 (Or.inr (W159 hw)) (ty := (.object "java/lang/String")) (by decide)
          have f125 := (f124.keep KK118 nin0)
          have f126 : Fld Z h78 a78 "com/example/quadrille/quadrille/rdf/BaseIri$Components" "fragment" "Ljava/lang/String;" .null := D78 (Or.inr (W161 hw)) (ty := (.object "java/lang/String")) (by decide)
          have f127 := (f126.keep KK118 nin0)
          have f128 := (E78.keep KK118)
          refine C84.special (y := ⟨"com/example/quadrille/quadrille/rdf/BaseIri$Components", "<init>", "(Ljava/lang/String;Ljava/lang/String;Ljava/lang/String;Ljava/lang/String;Ljava/lang/String;)V"⟩) (W := 1) rfl (W148 hw) (W149 hw) (W150 hw) (W43 hw) (by decide) (rm_coInit l Z a0 EL G a78 (.ref x81) rfl v8 (OS.ref hv8) (.ref x84) rfl .null rfl .null rfl h84 C84.old f128 f119 f121 f123 f125 f127 zg78) (fun _ => rfl) rfl all0 (by decide) (by decide) (by decide) (by decide) (lenOf pd_38 rfl) rfl (nb rfl) rfl (Y29 127 rfl) (pc' := 251) rfl ?_
          intro vm129 T129 h129 v129 C129 A129 M129 q129
          obtain ⟨rfl, K129, E129, F129_0, F129_1, F129_2, F129_3, F129_4⟩ := q129
          have ne130 : x84 ≠ a78 := (RoadKit.Exa.ne Z84.1 (E78.keep KK118) (by decide))
          have ne131 : d84 ≠ a78 := (Ne.symm (RoadKit.Exa.neArv (E78.keep KK118) Z84.2.2.2.1 (W114 hw)))
          have f132 := (Z84.keep K129 (ninS ne130 nin0) (ninS ne131 nin0))
          have KK133 := (kT (kT (kR h81 [a78]) K84 all0) K129 (allS m0 all0))
          have ne134 : x81 ≠ a78 := (RoadKit.Exa.ne Z81.1 (E78.keep K81) (by decide))
          have ne135 : d81 ≠ a78 := (Ne.symm (RoadKit.Exa.neArv (E78.keep K81) Z81.2.2.2.1 (W114 hw)))
          have f136 := (Z81.keep KK133 (ninS ne134 nin0) (ninS ne135 nin0))
          have KK137 := (kT (kT (kT KK79 K81 all0) K84 all0) K129 (allS (Or.inr (lT K.1 ge78)) all0))
          have f138 := (hv8.keep (kT (kT (kT (kT (kR hh []) K78 all0) K81 all0) K84 all0) K129 (allS (Or.inr ge78) all0)))
          exact C129.retA (t := (.object "com/example/quadrille/quadrille/rdf/BaseIri$Components")) rfl rfl rfl rfl (Y29 128 rfl) (by decide) (by decide) ⟨a78, rfl, KK137, (lT K.1 ge78), zg78, (.ref x81), v8, x84, d84, kd84, .null, .null, E129, F129_0, F129_1, F129_2, F129_3, F129_4, (by rw [own_sch, if_pos hB, ← hse]; exact OS.mk f136), f138, (by rw [own_pth, ← hps, ← hqm]; exact f132), (by rw [own_qry, if_neg (fun q => c86 ((own_lt (by omega) (by omega)).mpr (by rw [← hqm, ← hfm] at q; exact q)))]; exact OS.nil), (by rw [own_frg, if_neg (by rw [← hfm]; omega)]; exact OS.nil)⟩
    · show Endw p e below T (mkF m 184 #[.val (.ref a), .val (.int z1), .val (.int (Int32.ofNat fm)), l3, .val (.int (Int32.ofNat qm)), .val (.int (Int32.ofNat se)), .val (.int 0), .val (.int (Int32.ofNat hs)), .val v8, .val (.int (Int32.ofNat ps)), l10] []) _
      rcases hz with ⟨hlt, rfl⟩ | ⟨hge, rfl⟩
      · show Endw p e below T (mkF m 184 #[.val (.ref a), .val (.int (Int32.ofNat fm)), .val (.int (Int32.ofNat fm)), l3, .val (.int (Int32.ofNat qm)), .val (.int (Int32.ofNat se)), .val (.int 0), .val (.int (Int32.ofNat hs)), .val v8, .val (.int (Int32.ofNat ps)), l10] []) _
        refine C.new (W113 hw) (W114 hw) (W43 hw) (Y29 92 rfl) (pc' := 187) rfl (by decide) (by decide) ?_
        intro T139 h139 a139 C139 K139 A139 ge139 zg139 E139 D139 S139
        refine C139.du (Y29 93 rfl) rfl (C139.iLk (Y29 94 rfl) rfl (C139.fY (pc' := 203) (Y29 95 rfl) (XT.i0_eq_t (by decide)) (by decide) rfl (C139.nu (Y29 101 rfl) (C139.aLk (Y29 102 rfl) rfl (OS.ref hv8) (C139.aL (Y29 103 rfl) rfl rfl (C139.iLk (Y29 104 rfl) rfl (C139.iLk (Y29 105 rfl) rfl ?_)))))))
        have KK140 := (kT (kT (kR h []) K all0) K139 all0)
        have f141 := (S.keep KK140 nin0 nin0)
        have f143 := (S.1.keep KK140)
        refine C139.virtual (W := 4) (W115 hw) (W116 hw) (fun _ q => notFace_of_selects (args := #[]) (mvT q (W118 hw))) (W118 hw) (W117 hw) (W119 hw) (W10 hw) (by decide) (rm_sub l Z a0 EL G a t kb cs ps qm h139 C139.old f141 (by omega) (by omega) (by omega)) (fun z => nomatch z) rfl f143 all0 (by decide) (by decide) (by decide) (by decide) (lenOf pd_16 rfl) rfl (by simp [own_cI, own_cR, own_cN, own_cJ, own_cD, XT.cat1 (OS.ref hv8)]) rfl (Y29 106 rfl) (pc' := 214) rfl ?_
        intro vm142 T142 h142 v142 C142 A142 M142 q142
        obtain ⟨x142, d142, kd142, rfl, K142, Z142⟩ := q142
        refine C142.iLk (Y29 107 rfl) rfl (C142.iL (Y29 108 rfl) rfl ?_)
        by_cases c144 : (Int32.ofNat qm) < (Int32.ofNat fm)
        · refine C142.cN (Y29 109 rfl) (XT.ii_ge_f c144) (C142.aL (Y29 110 rfl) rfl rfl (C142.iLk (Y29 111 rfl) rfl (C142.ic (z := 1) (Y29 112 rfl) rfl (C142.ad (z := ((Int32.ofNat qm) + (1 : Int32))) (Y29 113 rfl) rfl ?_))))
          rw [show ((Int32.ofNat qm) + (1 : Int32)) = (Int32.ofNat (qm + 1)) from own_inc _]
          refine C142.iL (Y29 114 rfl) rfl ?_
          have f145 := (f141.keep K142 nin0 nin0)
          have f147 := (f143.keep K142)
          refine C142.virtual (W := 5) (W115 hw) (W116 hw) (fun _ q => notFace_of_selects (args := #[]) (mvT q (W118 hw))) (W118 hw) (W117 hw) (W119 hw) (W10 hw) (by decide) (rm_sub l Z a0 EL G a t kb cs (qm + 1) fm h142 C142.old f145 (by have := (own_lt (by omega) (by omega)).mp c144; omega) (by omega) (by omega)) (fun z => nomatch z) rfl f147 all0 (by decide) (by decide) (by decide) (by decide) (lenOf pd_16 rfl) rfl (by simp [own_cI, own_cR, own_cN, own_cJ, own_cD, XT.cat1 (OS.ref hv8)]) rfl (Y29 115 rfl) (pc' := 229) rfl ?_
          intro vm146 T146 h146 v146 C146 A146 M146 q146
          obtain ⟨x146, d146, kd146, rfl, K146, Z146⟩ := q146
          refine C146.go (pc' := 233) (Y29 116 rfl) (by decide) rfl (C146.iL (Y29 118 rfl) rfl (C146.fN (Y29 119 rfl) (XT.i0_lt_f (own_nn (by omega))) (C146.aL (Y29 120 rfl) rfl rfl (C146.iL (Y29 121 rfl) rfl (C146.ic (z := 1) (Y29 122 rfl) rfl (C146.ad (z := ((Int32.ofNat fm) + (1 : Int32))) (Y29 123 rfl) rfl ?_))))))
          rw [show ((Int32.ofNat fm) + (1 : Int32)) = (Int32.ofNat (fm + 1)) from own_inc _]
          have f148 := (f145.keep K146 nin0 nin0)
          have f150 := (f147.keep K146)
          refine C146.virtual (W := 6) (wd hw 378 rfl) (wd hw 379 rfl) (fun _ q => notFace_of_selects (args := #[]) (mvT q (W381 hw))) (W381 hw) (wd hw 380 rfl) (wd hw 382 rfl) (W10 hw) (by decide) (rm_sub1 l Z a0 EL G a t kb cs (fm + 1) h146 C146.old f148 (by omega) (by omega)) (fun z => nomatch z) rfl f150 all0 (by decide) (by decide) (by decide) (by decide) (lenOf pd_12 rfl) rfl (by simp [own_cI, own_cR, own_cN, own_cJ, own_cD, XT.cat1 (OS.ref hv8)]) rfl (Y29 124 rfl) (pc' := 244) rfl ?_
          intro vm149 T149 h149 v149 C149 A149 M149 q149
          obtain ⟨x149, d149, kd149, rfl, K149, Z149⟩ := q149
          refine C149.go (pc' := 248) (Y29 125 rfl) (by decide) rfl ?_
          have f151 : Fld Z h139 a139 "com/example/quadrille/quadrille/rdf/BaseIri$Components" "scheme" "Ljava/lang/String;" .null := D139 (Or.inr (W153 hw)) (ty := (.object "java/lang/String")) (by decide)
          have KK152 := (kT (kT (kT (kR h139 []) K142 all0) K146 all0) K149 all0)
          have f153 := (f151.keep KK152 nin0)
          have f154 : Fld Z h139 a139 "com/example/quadrille/quadrille/rdf/BaseIri$Components" "authority" "Ljava/lang/String;" .null := D139 (Or.inr (W155 hw)) (ty := (.object "java/lang/String")) (by decide)
          have f155 := (f154.keep KK152 nin0)
          have f156 : Fld Z h139 a139 "com/example/quadrille/quadrille/rdf/BaseIri$Components" "path" "Ljava/lang/String;" .null := D139 (Or.inr (W157 hw)) (ty := (.object "java/lang/String")) (by decide)
          have f157 := (f156.keep KK152 nin0)
          have f158 : Fld Z h139 a139 "com/example/quadrille/quadrille/rdf/BaseIri$Components" "query" "Ljava/lang/String;" .null := D139 (Or.inr (W159 hw)) (ty := (.object "java/lang/String")) (by decide)
          have f159 := (f158.keep KK152 nin0)
          have f160 : Fld Z h139 a139 "com/example/quadrille/quadrille/rdf/BaseIri$Components" "fragment" "Ljava/lang/String;" .null := D139 (Or.inr (W161 hw)) (ty := (.object "java/lang/String")) (by decide)
          have f161 := (f160.keep KK152 nin0)
          have f162 := (E139.keep KK152)
          refine C149.special (y := ⟨"com/example/quadrille/quadrille/rdf/BaseIri$Components", "<init>", "(Ljava/lang/String;Ljava/lang/String;Ljava/lang/String;Ljava/lang/String;Ljava/lang/String;)V"⟩) (W := 1) rfl (W148 hw) (W149 hw) (W150 hw) (W43 hw) (by decide) (rm_coInit l Z a0 EL G a139 .null rfl v8 (OS.ref hv8) (.ref x142) rfl (.ref x146) rfl (.ref x149) rfl h149 C149.old f162 f153 f155 f157 f159 f161 zg139) (fun _ => rfl) rfl all0 (by decide) (by decide) (by decide) (by decide) (lenOf pd_38 rfl) rfl (nb rfl) rfl (Y29 127 rfl) (pc' := 251) rfl ?_
          intro vm163 T163 h163 v163 C163 A163 M163 q163
          obtain ⟨rfl, K163, E163, F163_0, F163_1, F163_2, F163_3, F163_4⟩ := q163
          have KK164 := (kT (kT (kT (kR h142 [a139]) K146 all0) K149 all0) K163 (allS m0 all0))
          have ne165 : x142 ≠ a139 := (RoadKit.Exa.ne Z142.1 (E139.keep K142) (by decide))
          have ne166 : d142 ≠ a139 := (Ne.symm (RoadKit.Exa.neArv (E139.keep K142) Z142.2.2.2.1 (W114 hw)))
          have f167 := (Z142.keep KK164 (ninS ne165 nin0) (ninS ne166 nin0))
          have KK168 := (kT (kT (kR h146 [a139]) K149 all0) K163 (allS m0 all0))
          have KK169 := (kT (kT (kR h139 []) K142 all0) K146 all0)
          have ne170 : x146 ≠ a139 := (RoadKit.Exa.ne Z146.1 (E139.keep KK169) (by decide))
          have ne171 : d146 ≠ a139 := (Ne.symm (RoadKit.Exa.neArv (E139.keep KK169) Z146.2.2.2.1 (W114 hw)))
          have f172 := (Z146.keep KK168 (ninS ne170 nin0) (ninS ne171 nin0))
          have ne173 : x149 ≠ a139 := (RoadKit.Exa.ne Z149.1 (E139.keep KK152) (by decide))
          have ne174 : d149 ≠ a139 := (Ne.symm (RoadKit.Exa.neArv (E139.keep KK152) Z149.2.2.2.1 (W114 hw)))
          have f175 := (Z149.keep K163 (ninS ne173 nin0) (ninS ne174 nin0))
          have KK176 := (kT (kT (kT (kT KK140 K142 all0) K146 all0) K149 all0) K163 (allS (Or.inr (lT K.1 ge139)) all0))
          have f177 := (hv8.keep (kT (kT (kT (kT (kT (kR hh []) K139 all0) K142 all0) K146 all0) K149 all0) K163 (allS (Or.inr ge139) all0)))
          exact C163.retA (t := (.object "com/example/quadrille/quadrille/rdf/BaseIri$Components")) rfl rfl rfl rfl (Y29 128 rfl) (by decide) (by decide) ⟨a139, rfl, KK176, (lT K.1 ge139), zg139, .null, v8, x142, d142, kd142, (.ref x146), (.ref x149), E163, F163_0, F163_1, F163_2, F163_3, F163_4, (by rw [own_sch, if_neg hB]; exact OS.nil), f177, (by rw [own_pth, ← hps, ← hqm]; exact f167), (by rw [own_qry, if_pos (by rw [← hqm, ← hfm]; exact (own_lt (by omega) (by omega)).mp c144), ← hqm, ← hfm]; exact OS.mk f172), (by rw [own_frg, if_pos (by rw [← hfm]; exact hlt), ← hfm]; exact OS.mk f175)⟩
        · refine C142.cY (pc' := 232) (Y29 109 rfl) (XT.ii_ge_t c144) (by decide) rfl (C142.nu (Y29 117 rfl) (C142.iL (Y29 118 rfl) rfl (C142.fN (Y29 119 rfl) (XT.i0_lt_f (own_nn (by omega))) (C142.aL (Y29 120 rfl) rfl rfl (C142.iL (Y29 121 rfl) rfl (C142.ic (z := 1) (Y29 122 rfl) rfl (C142.ad (z := ((Int32.ofNat fm) + (1 : Int32))) (Y29 123 rfl) rfl ?_)))))))
          rw [show ((Int32.ofNat fm) + (1 : Int32)) = (Int32.ofNat (fm + 1)) from own_inc _]
          have f178 := (f141.keep K142 nin0 nin0)
          have f180 := (f143.keep K142)
          refine C142.virtual (W := 6) (wd hw 378 rfl) (wd hw 379 rfl) (fun _ q => notFace_of_selects (args := #[]) (mvT q (W381 hw))) (W381 hw) (wd hw 380 rfl) (wd hw 382 rfl) (W10 hw) (by decide) (rm_sub1 l Z a0 EL G a t kb cs (fm + 1) h142 C142.old f178 (by omega) (by omega)) (fun z => nomatch z) rfl f180 all0 (by decide) (by decide) (by decide) (by decide) (lenOf pd_12 rfl) rfl (by simp [own_cI, own_cR, own_cN, own_cJ, own_cD, XT.cat1 (OS.ref hv8)]) rfl (Y29 124 rfl) (pc' := 244) rfl ?_
          intro vm179 T179 h179 v179 C179 A179 M179 q179
          obtain ⟨x179, d179, kd179, rfl, K179, Z179⟩ := q179
          refine C179.go (pc' := 248) (Y29 125 rfl) (by decide) rfl ?_
          have f181 : Fld Z h139 a139 "com/example/quadrille/quadrille/rdf/BaseIri$Components" "scheme" "Ljava/lang/String;" .null := D139 (Or.inr (W153 hw)) (ty := (.object "java/lang/String")) (by decide)
          have KK182 := (kT (kT (kR h139 []) K142 all0) K179 all0)
          have f183 := (f181.keep KK182 nin0)
          have f184 : Fld Z h139 a139 "com/example/quadrille/quadrille/rdf/BaseIri$Components" "authority" "Ljava/lang/String;" .null := D139 (Or.inr (W155 hw)) (ty := (.object "java/lang/String")) (by decide)
          have f185 := (f184.keep KK182 nin0)
          have f186 : Fld Z h139 a139 "com/example/quadrille/quadrille/rdf/BaseIri$Components" "path" "Ljava/lang/String;" .null := D139 (Or.inr (W157 hw)) (ty := (.object "java/lang/String")) (by decide)
          have f187 := (f186.keep KK182 nin0)
          have f188 : Fld Z h139 a139 "com/example/quadrille/quadrille/rdf/BaseIri$Components" "query" "Ljava/lang/String;" .null := D139 (Or.inr (W159 hw)) (ty := (.object "java/lang/String")) (by decide)
          have f189 := (f188.keep KK182 nin0)
          have f190 : Fld Z h139 a139 "com/example/quadrille/quadrille/rdf/BaseIri$Components" "fragment" "Ljava/lang/String;" .null := D139 (Or.inr (W161 hw)) (ty := (.object "java/lang/String")) (by decide)
          have f191 := (f190.keep KK182 nin0)
          have f192 := (E139.keep KK182)
          refine C179.special (y := ⟨"com/example/quadrille/quadrille/rdf/BaseIri$Components", "<init>", "(Ljava/lang/String;Ljava/lang/String;Ljava/lang/String;Ljava/lang/String;Ljava/lang/String;)V"⟩) (W := 1) rfl (W148 hw) (W149 hw) (W150 hw) (W43 hw) (by decide) (rm_coInit l Z a0 EL G a139 .null rfl v8 (OS.ref hv8) (.ref x142) rfl .null rfl (.ref x179) rfl h179 C179.old f192 f183 f185 f187 f189 f191 zg139) (fun _ => rfl) rfl all0 (by decide) (by decide) (by decide) (by decide) (lenOf pd_38 rfl) rfl (nb rfl) rfl (Y29 127 rfl) (pc' := 251) rfl ?_
          intro vm193 T193 h193 v193 C193 A193 M193 q193
          obtain ⟨rfl, K193, E193, F193_0, F193_1, F193_2, F193_3, F193_4⟩ := q193
          have KK194 := (kT (kT (kR h142 [a139]) K179 all0) K193 (allS m0 all0))
          have ne195 : x142 ≠ a139 := (RoadKit.Exa.ne Z142.1 (E139.keep K142) (by decide))
          have ne196 : d142 ≠ a139 := (Ne.symm (RoadKit.Exa.neArv (E139.keep K142) Z142.2.2.2.1 (W114 hw)))
          have f197 := (Z142.keep KK194 (ninS ne195 nin0) (ninS ne196 nin0))
          have ne198 : x179 ≠ a139 := (RoadKit.Exa.ne Z179.1 (E139.keep KK182) (by decide))
          have ne199 : d179 ≠ a139 := (Ne.symm (RoadKit.Exa.neArv (E139.keep KK182) Z179.2.2.2.1 (W114 hw)))
          have f200 := (Z179.keep K193 (ninS ne198 nin0) (ninS ne199 nin0))
          have KK201 := (kT (kT (kT KK140 K142 all0) K179 all0) K193 (allS (Or.inr (lT K.1 ge139)) all0))
          have f202 := (hv8.keep (kT (kT (kT (kT (kR hh []) K139 all0) K142 all0) K179 all0) K193 (allS (Or.inr ge139) all0)))
          exact C193.retA (t := (.object "com/example/quadrille/quadrille/rdf/BaseIri$Components")) rfl rfl rfl rfl (Y29 128 rfl) (by decide) (by decide) ⟨a139, rfl, KK201, (lT K.1 ge139), zg139, .null, v8, x142, d142, kd142, .null, (.ref x179), E193, F193_0, F193_1, F193_2, F193_3, F193_4, (by rw [own_sch, if_neg hB]; exact OS.nil), f202, (by rw [own_pth, ← hps, ← hqm]; exact f197), (by rw [own_qry, if_neg (fun q => c144 ((own_lt (by omega) (by omega)).mpr (by rw [← hqm, ← hfm] at q; exact q)))]; exact OS.nil), (by rw [own_frg, if_pos (by rw [← hfm]; exact hlt), ← hfm]; exact OS.mk f200)⟩
      · show Endw p e below T (mkF m 184 #[.val (.ref a), .val (.int (-1)), .val (.int (Int32.ofNat fm)), l3, .val (.int (Int32.ofNat qm)), .val (.int (Int32.ofNat se)), .val (.int 0), .val (.int (Int32.ofNat hs)), .val v8, .val (.int (Int32.ofNat ps)), l10] []) _
        refine C.new (W113 hw) (W114 hw) (W43 hw) (Y29 92 rfl) (pc' := 187) rfl (by decide) (by decide) ?_
        intro T203 h203 a203 C203 K203 A203 ge203 zg203 E203 D203 S203
        refine C203.du (Y29 93 rfl) rfl (C203.iLk (Y29 94 rfl) rfl (C203.fY (pc' := 203) (Y29 95 rfl) (XT.i0_eq_t (by decide)) (by decide) rfl (C203.nu (Y29 101 rfl) (C203.aLk (Y29 102 rfl) rfl (OS.ref hv8) (C203.aL (Y29 103 rfl) rfl rfl (C203.iLk (Y29 104 rfl) rfl (C203.iLk (Y29 105 rfl) rfl ?_)))))))
        have KK204 := (kT (kT (kR h []) K all0) K203 all0)
        have f205 := (S.keep KK204 nin0 nin0)
        have f207 := (S.1.keep KK204)
        refine C203.virtual (W := 4) (W115 hw) (W116 hw) (fun _ q => notFace_of_selects (args := #[]) (mvT q (W118 hw))) (W118 hw) (W117 hw) (W119 hw) (W10 hw) (by decide) (rm_sub l Z a0 EL G a t kb cs ps qm h203 C203.old f205 (by omega) (by omega) (by omega)) (fun z => nomatch z) rfl f207 all0 (by decide) (by decide) (by decide) (by decide) (lenOf pd_16 rfl) rfl (by simp [own_cI, own_cR, own_cN, own_cJ, own_cD, XT.cat1 (OS.ref hv8)]) rfl (Y29 106 rfl) (pc' := 214) rfl ?_
        intro vm206 T206 h206 v206 C206 A206 M206 q206
        obtain ⟨x206, d206, kd206, rfl, K206, Z206⟩ := q206
        refine C206.iLk (Y29 107 rfl) rfl (C206.iL (Y29 108 rfl) rfl ?_)
        by_cases c208 : (Int32.ofNat qm) < (Int32.ofNat fm)
        · refine C206.cN (Y29 109 rfl) (XT.ii_ge_f c208) (C206.aL (Y29 110 rfl) rfl rfl (C206.iLk (Y29 111 rfl) rfl (C206.ic (z := 1) (Y29 112 rfl) rfl (C206.ad (z := ((Int32.ofNat qm) + (1 : Int32))) (Y29 113 rfl) rfl ?_))))
          rw [show ((Int32.ofNat qm) + (1 : Int32)) = (Int32.ofNat (qm + 1)) from own_inc _]
          refine C206.iL (Y29 114 rfl) rfl ?_
          have f209 := (f205.keep K206 nin0 nin0)
          have f211 := (f207.keep K206)
          refine C206.virtual (W := 5) (W115 hw) (W116 hw) (fun _ q => notFace_of_selects (args := #[]) (mvT q (W118 hw))) (W118 hw) (W117 hw) (W119 hw) (W10 hw) (by decide) (rm_sub l Z a0 EL G a t kb cs (qm + 1) fm h206 C206.old f209 (by have := (own_lt (by omega) (by omega)).mp c208; omega) (by omega) (by omega)) (fun z => nomatch z) rfl f211 all0 (by decide) (by decide) (by decide) (by decide) (lenOf pd_16 rfl) rfl (by simp [own_cI, own_cR, own_cN, own_cJ, own_cD, XT.cat1 (OS.ref hv8)]) rfl (Y29 115 rfl) (pc' := 229) rfl ?_
          intro vm210 T210 h210 v210 C210 A210 M210 q210
          obtain ⟨x210, d210, kd210, rfl, K210, Z210⟩ := q210
          refine C210.go (pc' := 233) (Y29 116 rfl) (by decide) rfl (C210.iL (Y29 118 rfl) rfl (C210.fY (pc' := 247) (Y29 119 rfl) (XT.i0_lt_t (by decide)) (by decide) rfl (C210.nu (Y29 126 rfl) ?_)))
          have f212 : Fld Z h203 a203 "com/example/quadrille/quadrille/rdf/BaseIri$Components" "scheme" "Ljava/lang/String;" .null := D203 (Or.inr (W153 hw)) (ty := (.object "java/lang/String")) (by decide)
          have KK213 := (kT (kT (kR h203 []) K206 all0) K210 all0)
          have f214 := (f212.keep KK213 nin0)
          have f215 : Fld Z h203 a203 "com/example/quadrille/quadrille/rdf/BaseIri$Components" "authority" "Ljava/lang/String;" .null := D203 (Or.inr (W155 hw)) (ty := (.object "java/lang/String")) (by decide)
          have f216 := (f215.keep KK213 nin0)
          have f217 : Fld Z h203 a203 "com/example/quadrille/quadrille/rdf/BaseIri$Components" "path" "Ljava/lang/String;" .null := D203 (Or.inr (W157 hw)) (ty := (.object "java/lang/String")) (by decide)
          have f218 := (f217.keep KK213 nin0)
          have f219 : Fld Z h203 a203 "com/example/quadrille/quadrille/rdf/BaseIri$Components" "query" "Ljava/lang/String;" .null := D203 (Or.inr (W159 hw)) (ty := (.object "java/lang/String")) (by decide)
          have f220 := (f219.keep KK213 nin0)
          have f221 : Fld Z h203 a203 "com/example/quadrille/quadrille/rdf/BaseIri$Components" "fragment" "Ljava/lang/String;" .null := D203 (Or.inr (W161 hw)) (ty := (.object "java/lang/String")) (by decide)
          have f222 := (f221.keep KK213 nin0)
          have f223 := (E203.keep KK213)
          refine C210.special (y := ⟨"com/example/quadrille/quadrille/rdf/BaseIri$Components", "<init>", "(Ljava/lang/String;Ljava/lang/String;Ljava/lang/String;Ljava/lang/String;Ljava/lang/String;)V"⟩) (W := 1) rfl (W148 hw) (W149 hw) (W150 hw) (W43 hw) (by decide) (rm_coInit l Z a0 EL G a203 .null rfl v8 (OS.ref hv8) (.ref x206) rfl (.ref x210) rfl .null rfl h210 C210.old f223 f214 f216 f218 f220 f222 zg203) (fun _ => rfl) rfl all0 (by decide) (by decide) (by decide) (by decide) (lenOf pd_38 rfl) rfl (nb rfl) rfl (Y29 127 rfl) (pc' := 251) rfl ?_
          intro vm224 T224 h224 v224 C224 A224 M224 q224
          obtain ⟨rfl, K224, E224, F224_0, F224_1, F224_2, F224_3, F224_4⟩ := q224
          have KK225 := (kT (kT (kR h206 [a203]) K210 all0) K224 (allS m0 all0))
          have ne226 : x206 ≠ a203 := (RoadKit.Exa.ne Z206.1 (E203.keep K206) (by decide))
          have ne227 : d206 ≠ a203 := (Ne.symm (RoadKit.Exa.neArv (E203.keep K206) Z206.2.2.2.1 (W114 hw)))
          have f228 := (Z206.keep KK225 (ninS ne226 nin0) (ninS ne227 nin0))
          have ne229 : x210 ≠ a203 := (RoadKit.Exa.ne Z210.1 (E203.keep KK213) (by decide))
          have ne230 : d210 ≠ a203 := (Ne.symm (RoadKit.Exa.neArv (E203.keep KK213) Z210.2.2.2.1 (W114 hw)))
          have f231 := (Z210.keep K224 (ninS ne229 nin0) (ninS ne230 nin0))
          have KK232 := (kT (kT (kT KK204 K206 all0) K210 all0) K224 (allS (Or.inr (lT K.1 ge203)) all0))
          have f233 := (hv8.keep (kT (kT (kT (kT (kR hh []) K203 all0) K206 all0) K210 all0) K224 (allS (Or.inr ge203) all0)))
          exact C224.retA (t := (.object "com/example/quadrille/quadrille/rdf/BaseIri$Components")) rfl rfl rfl rfl (Y29 128 rfl) (by decide) (by decide) ⟨a203, rfl, KK232, (lT K.1 ge203), zg203, .null, v8, x206, d206, kd206, (.ref x210), .null, E224, F224_0, F224_1, F224_2, F224_3, F224_4, (by rw [own_sch, if_neg hB]; exact OS.nil), f233, (by rw [own_pth, ← hps, ← hqm]; exact f228), (by rw [own_qry, if_pos (by rw [← hqm, ← hfm]; exact (own_lt (by omega) (by omega)).mp c208), ← hqm, ← hfm]; exact OS.mk f231), (by rw [own_frg, if_neg (by rw [← hfm]; omega)]; exact OS.nil)⟩
        · refine C206.cY (pc' := 232) (Y29 109 rfl) (XT.ii_ge_t c208) (by decide) rfl (C206.nu (Y29 117 rfl) (C206.iL (Y29 118 rfl) rfl (C206.fY (pc' := 247) (Y29 119 rfl) (XT.i0_lt_t (by decide)) (by decide) rfl (C206.nu (Y29 126 rfl) ?_))))
          have f234 : Fld Z h203 a203 "com/example/quadrille/quadrille/rdf/BaseIri$Components" "scheme" "Ljava/lang/String;" .null := D203 (Or.inr (W153 hw)) (ty := (.object "java/lang/String")) (by decide)
          have f235 := (f234.keep K206 nin0)
          have f236 : Fld Z h203 a203 "com/example/quadrille/quadrille/rdf/BaseIri$Components" "authority" "Ljava/lang/String;" .null := D203 (Or.inr (W155 hw)) (ty := (.object "java/lang/String")) (by decide)
          have f237 := (f236.keep K206 nin0)
          have f238 : Fld Z h203 a203 "com/example/quadrille/quadrille/rdf/BaseIri$Components" "path" "Ljava/lang/String;" .null := D203 (Or.inr (W157 hw)) (ty := (.object "java/lang/String")) (by decide)
          have f239 := (f238.keep K206 nin0)
          have f240 : Fld Z h203 a203 "com/example/quadrille/quadrille/rdf/BaseIri$Components" "query" "Ljava/lang/String;" .null := D203 (Or.inr (W159 hw)) (ty := (.object "java/lang/String")) (by decide)
          have f241 := (f240.keep K206 nin0)
          have f242 : Fld Z h203 a203 "com/example/quadrille/quadrille/rdf/BaseIri$Components" "fragment" "Ljava/lang/String;" .null := D203 (Or.inr (W161 hw)) (ty := (.object "java/lang/String")) (by decide)
          have f243 := (f242.keep K206 nin0)
          have f244 := (E203.keep K206)
          refine C206.special (y := ⟨"com/example/quadrille/quadrille/rdf/BaseIri$Components", "<init>", "(Ljava/lang/String;Ljava/lang/String;Ljava/lang/String;Ljava/lang/String;Ljava/lang/String;)V"⟩) (W := 1) rfl (W148 hw) (W149 hw) (W150 hw) (W43 hw) (by decide) (rm_coInit l Z a0 EL G a203 .null rfl v8 (OS.ref hv8) (.ref x206) rfl .null rfl .null rfl h206 C206.old f244 f235 f237 f239 f241 f243 zg203) (fun _ => rfl) rfl all0 (by decide) (by decide) (by decide) (by decide) (lenOf pd_38 rfl) rfl (nb rfl) rfl (Y29 127 rfl) (pc' := 251) rfl ?_
          intro vm245 T245 h245 v245 C245 A245 M245 q245
          obtain ⟨rfl, K245, E245, F245_0, F245_1, F245_2, F245_3, F245_4⟩ := q245
          have ne246 : x206 ≠ a203 := (RoadKit.Exa.ne Z206.1 (E203.keep K206) (by decide))
          have ne247 : d206 ≠ a203 := (Ne.symm (RoadKit.Exa.neArv (E203.keep K206) Z206.2.2.2.1 (W114 hw)))
          have f248 := (Z206.keep K245 (ninS ne246 nin0) (ninS ne247 nin0))
          have KK249 := (kT (kT KK204 K206 all0) K245 (allS (Or.inr (lT K.1 ge203)) all0))
          have f250 := (hv8.keep (kT (kT (kT (kR hh []) K203 all0) K206 all0) K245 (allS (Or.inr ge203) all0)))
          exact C245.retA (t := (.object "com/example/quadrille/quadrille/rdf/BaseIri$Components")) rfl rfl rfl rfl (Y29 128 rfl) (by decide) (by decide) ⟨a203, rfl, KK249, (lT K.1 ge203), zg203, .null, v8, x206, d206, kd206, .null, .null, E245, F245_0, F245_1, F245_2, F245_3, F245_4, (by rw [own_sch, if_neg hB]; exact OS.nil), f250, (by rw [own_pth, ← hps, ← hqm]; exact f248), (by rw [own_qry, if_neg (fun q => c208 ((own_lt (by omega) (by omega)).mpr (by rw [← hqm, ← hfm] at q; exact q)))]; exact OS.nil), (by rw [own_frg, if_neg (by rw [← hfm]; omega)]; exact OS.nil)⟩
  have J118 : ∀ (z1 : Int32) (fm : Nat) (qm : Nat) (se : Nat) (d : Int32) (hs : Nat) (l3 : Slot) (vm : Vm) (T : State) (hh : Heap), (fm = own_ix 35 cs) → ((fm < cs.length ∧ z1 = Int32.ofNat fm) ∨ (fm = cs.length ∧ z1 = -1)) → (qm = own_qm cs) → (se = own_se cs) → ((d = 1 ∧ own_hsB cs ∧ hs = se + 1) ∨ (d = 0 ∧ ¬ own_hsB cs ∧ hs = 0)) → (Keep h hh []) → (CHr Z EL s.vm h vm hh) → Core p l e ⟨6, 25, 149, 99⟩ s m #[(.ref a)] below meth c prog_4_method_2_code 11 (some (.object "com/example/quadrille/quadrille/rdf/BaseIri$Components")) "of" "com/example/quadrille/quadrille/rdf/BaseIri$Components" Z a0 EL false vm T hh 12 72 → Endw p e below T (mkF m 118 #[.val (.ref a), .val (.int z1), .val (.int (Int32.ofNat fm)), l3, .val (.int (Int32.ofNat qm)), .val (.int (Int32.ofNat se)), .val (.int d), .val (.int (Int32.ofNat hs)), .unset, .unset, .unset] []) (Fin s Z EL false (fun r h' => ∃ x : Addr, r = some (.ref x) ∧ Keep h h' [] ∧ h.size ≤ x ∧ Z.heap.size ≤ x ∧ Cmp Z h' x (own_sch cs) (own_aut cs) (own_pth cs) (own_qry cs) (own_frg cs)) (({ frames := 6, cells := 25, slots := 149, locals := 99 } : Room)).cells (({ frames := 6, cells := 25, slots := 149, locals := 99 } : Room)).slots) := by
    intro z1 fm qm se d hs l3 vm T hh hfm hz hqm hse hd K A C
    have hhs : hs = own_hs cs := hd.elim (fun q => by rw [own_hs, if_pos q.2.1, ← hse]; exact q.2.2) (fun q => by rw [own_hs, if_neg q.2.1]; exact q.2.2)
    by_cases c251 : own_auB cs
    · have ca := c251
      have au := own_auQ ca
      rw [← hhs, ← hqm] at au
      refine C.aL (Y29 59 rfl) rfl rfl ?_
      refine C.ldcC (N := 8) (vs := (bys [(47 : Int32), (47 : Int32)])) (z := (2 : Int32)) (W107 hw) G.wS (by rw [G.el]; decide) ⟨by decide, by decide⟩ (by decide) (by decide) (by decide) (by decide) (by decide) (by decide) (Y29 60 rfl) (pc' := 121) rfl rfl ?_
      intro vm252 T252 h252 a252 b252 kA252 C252 K252 A252 E252 F252 f252 V252 r252
      have Z252 : Str Z h252 a252 b252 kA252 [(47 : Int32), (47 : Int32)] := ⟨E252, F252, f252, V252, (own_cS ⟨by decide, by decide⟩ (own_cS ⟨by decide, by decide⟩ own_c0)), by decide⟩
      refine C252.iLk (Y29 61 rfl) rfl ?_
      have KK253 := (kT (kT (kR h []) K all0) K252 all0)
      have f254 := (S.keep KK253 nin0 nin0)
      have f256 := (S.1.keep KK253)
      refine C252.virtual (W := 0) (wd hw 108 rfl) (W109 hw) (fun _ q => notFace_of_selects (args := #[]) (mvT q (W111 hw))) (W111 hw) (W110 hw) (W112 hw) (W10 hw) (by decide) (rm_sw2 l Z a0 EL G a t kb cs a252 b252 kA252 [(47 : Int32), (47 : Int32)] hs h252 C252.old f254 Z252 (by omega) (nb rfl)) (fun _ => rfl) rfl f256 all0 (by decide) (by decide) (by decide) (by decide) (lenOf pd_35 rfl) rfl (nb rfl) rfl (Y29 62 rfl) (pc' := 126) rfl ?_
      intro vm255 T255 h255 v255 C255 A255 M255 q255
      obtain ⟨rfl, rfl⟩ := q255
      refine C255.fN (Y29 63 rfl) (XT.i0_eq_f (by rw [own_sw, if_pos (show own_pre [47, 47] (cs.drop hs) = true from by rw [hhs]; exact c251)]; decide)) (C255.aL (Y29 64 rfl) rfl rfl (C255.bi (z := 47) (Y29 65 rfl) rfl (C255.iLk (Y29 66 rfl) rfl (C255.ic (z := 2) (Y29 67 rfl) rfl (C255.ad (z := ((Int32.ofNat hs) + (2 : Int32))) (Y29 68 rfl) rfl ?_)))))
      rw [show ((Int32.ofNat hs) + (2 : Int32)) = (Int32.ofNat (hs + 2)) from own_add _ 2]
      refine C255.virtual (W := 0) (wd hw 372 rfl) (wd hw 51 rfl) (fun _ q => notFace_of_selects (args := #[]) (mvT q (W53 hw))) (W53 hw) (wd hw 52 rfl) (wd hw 54 rfl) (W10 hw) (by decide) (rm_ix2 l Z a0 EL G a t kb cs (47 : Int32) (hs + 2) h252 C255.old f254 ⟨by decide, by decide⟩ (by omega)) (fun _ => rfl) rfl f256 all0 (by decide) (by decide) (by decide) (by decide) (lenOf pd_2849492949 rfl) rfl (nb rfl) rfl (Y29 69 rfl) (pc' := 139) rfl ?_
      intro vm257 T257 h257 v257 C257 A257 M257 q257
      obtain ⟨z257, rfl, e257, rfl⟩ := q257
      rcases own_fndC e257 with ⟨lt258, rfl⟩ | ⟨ge258, rfl⟩
      · show Endw p e below T257 (mkF m 139 #[.val (.ref a), .val (.int z1), .val (.int (Int32.ofNat fm)), l3, .val (.int (Int32.ofNat qm)), .val (.int (Int32.ofNat se)), .val (.int d), .val (.int (Int32.ofNat hs)), .unset, .unset, .unset] [(.int (Int32.ofNat ((hs + 2) + own_ix 47 (cs.drop (hs + 2)))))]) _
        refine C257.iSk (Y29 70 rfl) (l' := #[.val (.ref a), .val (.int z1), .val (.int (Int32.ofNat fm)), l3, .val (.int (Int32.ofNat qm)), .val (.int (Int32.ofNat se)), .val (.int d), .val (.int (Int32.ofNat hs)), .unset, .unset, .val (.int (Int32.ofNat ((hs + 2) + own_ix 47 (cs.drop (hs + 2)))))]) rfl (C257.iLk (Y29 71 rfl) rfl (C257.fN (Y29 72 rfl) (XT.i0_lt_f (own_nn (by omega))) (C257.iLk (Y29 73 rfl) rfl (C257.iLk (Y29 74 rfl) rfl ?_))))
        by_cases c259 : (Int32.ofNat ((hs + 2) + own_ix 47 (cs.drop (hs + 2)))) < (Int32.ofNat qm)
        · refine C257.cN (Y29 75 rfl) (XT.ii_ge_f c259) (C257.iLk (Y29 76 rfl) rfl (C257.go (pc' := 160) (Y29 77 rfl) (by decide) rfl ?_))
          have hps1 : ((hs + 2) + own_ix 47 (cs.drop (hs + 2))) = own_ps cs := (by rw [own_ps, if_pos ca, if_pos (by unfold own_sx; rw [← hhs, ← hqm]; exact (own_lt (by omega) (by omega)).mp c259)]; unfold own_sx; rw [← hhs])
          refine C257.iSk (Y29 79 rfl) (l' := #[.val (.ref a), .val (.int z1), .val (.int (Int32.ofNat fm)), l3, .val (.int (Int32.ofNat qm)), .val (.int (Int32.ofNat se)), .val (.int d), .val (.int (Int32.ofNat hs)), .unset, .val (.int (Int32.ofNat ((hs + 2) + own_ix 47 (cs.drop (hs + 2))))), .val (.int (Int32.ofNat ((hs + 2) + own_ix 47 (cs.drop (hs + 2)))))]) rfl (C257.aL (Y29 80 rfl) rfl rfl (C257.iLk (Y29 81 rfl) rfl (C257.ic (z := 2) (Y29 82 rfl) rfl (C257.ad (z := ((Int32.ofNat hs) + (2 : Int32))) (Y29 83 rfl) rfl ?_))))
          rw [show ((Int32.ofNat hs) + (2 : Int32)) = (Int32.ofNat (hs + 2)) from own_add _ 2]
          refine C257.iLk (Y29 84 rfl) rfl ?_
          refine C257.virtual (W := 0) (W115 hw) (W116 hw) (fun _ q => notFace_of_selects (args := #[]) (mvT q (W118 hw))) (W118 hw) (W117 hw) (W119 hw) (W10 hw) (by decide) (rm_sub l Z a0 EL G a t kb cs (hs + 2) ((hs + 2) + own_ix 47 (cs.drop (hs + 2))) h252 C257.old f254 (by have := own_ps_ge ca; omega) (by omega) (by omega)) (fun z => nomatch z) rfl f256 all0 (by decide) (by decide) (by decide) (by decide) (lenOf pd_16 rfl) rfl (nb rfl) rfl (Y29 85 rfl) (pc' := 172) rfl ?_
          intro vm260 T260 h260 v260 C260 A260 M260 q260
          obtain ⟨x260, d260, kd260, rfl, K260, Z260⟩ := q260
          refine C260.aSk (Y29 86 rfl) rfl (l' := #[.val (.ref a), .val (.int z1), .val (.int (Int32.ofNat fm)), l3, .val (.int (Int32.ofNat qm)), .val (.int (Int32.ofNat se)), .val (.int d), .val (.int (Int32.ofNat hs)), .val (.ref x260), .val (.int (Int32.ofNat ((hs + 2) + own_ix 47 (cs.drop (hs + 2))))), .val (.int (Int32.ofNat ((hs + 2) + own_ix 47 (cs.drop (hs + 2)))))]) rfl (C260.go (pc' := 184) (Y29 87 rfl) (by decide) rfl ?_)
          have KK261 := (kT KK253 K260 all0)
          exact J184 z1 fm qm se d hs ((hs + 2) + own_ix 47 (cs.drop (hs + 2))) (.ref x260) l3 (.val (.int (Int32.ofNat ((hs + 2) + own_ix 47 (cs.drop (hs + 2)))))) vm260 T260 h260 hfm hz hqm hse hd hps1 (by rw [own_aut, if_pos ca, ← hhs, ← hps1]; exact OS.mk Z260) KK261 (CHr.trans (CHr.trans (CHr.trans (CHr.trans A A252) A255) A257) A260) C260
        · refine C257.cY (pc' := 158) (Y29 75 rfl) (XT.ii_ge_t c259) (by decide) rfl (C257.iLk (Y29 78 rfl) rfl ?_)
          have hps1 : qm = own_ps cs := (by rw [own_ps, if_pos ca, if_neg (by unfold own_sx; rw [← hhs, ← hqm]; exact fun q => c259 ((own_lt (by omega) (by omega)).mpr q)), ← hqm])
          refine C257.iSk (Y29 79 rfl) (l' := #[.val (.ref a), .val (.int z1), .val (.int (Int32.ofNat fm)), l3, .val (.int (Int32.ofNat qm)), .val (.int (Int32.ofNat se)), .val (.int d), .val (.int (Int32.ofNat hs)), .unset, .val (.int (Int32.ofNat qm)), .val (.int (Int32.ofNat ((hs + 2) + own_ix 47 (cs.drop (hs + 2)))))]) rfl (C257.aL (Y29 80 rfl) rfl rfl (C257.iLk (Y29 81 rfl) rfl (C257.ic (z := 2) (Y29 82 rfl) rfl (C257.ad (z := ((Int32.ofNat hs) + (2 : Int32))) (Y29 83 rfl) rfl ?_))))
          rw [show ((Int32.ofNat hs) + (2 : Int32)) = (Int32.ofNat (hs + 2)) from own_add _ 2]
          refine C257.iLk (Y29 84 rfl) rfl ?_
          refine C257.virtual (W := 0) (W115 hw) (W116 hw) (fun _ q => notFace_of_selects (args := #[]) (mvT q (W118 hw))) (W118 hw) (W117 hw) (W119 hw) (W10 hw) (by decide) (rm_sub l Z a0 EL G a t kb cs (hs + 2) qm h252 C257.old f254 (by have := own_ps_ge ca; omega) (by omega) (by omega)) (fun z => nomatch z) rfl f256 all0 (by decide) (by decide) (by decide) (by decide) (lenOf pd_16 rfl) rfl (nb rfl) rfl (Y29 85 rfl) (pc' := 172) rfl ?_
          intro vm262 T262 h262 v262 C262 A262 M262 q262
          obtain ⟨x262, d262, kd262, rfl, K262, Z262⟩ := q262
          refine C262.aSk (Y29 86 rfl) rfl (l' := #[.val (.ref a), .val (.int z1), .val (.int (Int32.ofNat fm)), l3, .val (.int (Int32.ofNat qm)), .val (.int (Int32.ofNat se)), .val (.int d), .val (.int (Int32.ofNat hs)), .val (.ref x262), .val (.int (Int32.ofNat qm)), .val (.int (Int32.ofNat ((hs + 2) + own_ix 47 (cs.drop (hs + 2)))))]) rfl (C262.go (pc' := 184) (Y29 87 rfl) (by decide) rfl ?_)
          have KK263 := (kT KK253 K262 all0)
          exact J184 z1 fm qm se d hs qm (.ref x262) l3 (.val (.int (Int32.ofNat ((hs + 2) + own_ix 47 (cs.drop (hs + 2)))))) vm262 T262 h262 hfm hz hqm hse hd hps1 (by rw [own_aut, if_pos ca, ← hhs, ← hps1]; exact OS.mk Z262) KK263 (CHr.trans (CHr.trans (CHr.trans (CHr.trans A A252) A255) A257) A262) C262
      · show Endw p e below T257 (mkF m 139 #[.val (.ref a), .val (.int z1), .val (.int (Int32.ofNat fm)), l3, .val (.int (Int32.ofNat qm)), .val (.int (Int32.ofNat se)), .val (.int d), .val (.int (Int32.ofNat hs)), .unset, .unset, .unset] [(.int (-1))]) _
        refine C257.iSk (Y29 70 rfl) (l' := #[.val (.ref a), .val (.int z1), .val (.int (Int32.ofNat fm)), l3, .val (.int (Int32.ofNat qm)), .val (.int (Int32.ofNat se)), .val (.int d), .val (.int (Int32.ofNat hs)), .unset, .unset, .val (.int (-1))]) rfl (C257.iLk (Y29 71 rfl) rfl (C257.fY (pc' := 158) (Y29 72 rfl) (XT.i0_lt_t (by decide)) (by decide) rfl (C257.iLk (Y29 78 rfl) rfl ?_)))
        have hps1 : qm = own_ps cs := (by rw [own_ps, if_pos ca, if_neg (by unfold own_sx; rw [← hhs]; omega), ← hqm])
        refine C257.iSk (Y29 79 rfl) (l' := #[.val (.ref a), .val (.int z1), .val (.int (Int32.ofNat fm)), l3, .val (.int (Int32.ofNat qm)), .val (.int (Int32.ofNat se)), .val (.int d), .val (.int (Int32.ofNat hs)), .unset, .val (.int (Int32.ofNat qm)), .val (.int (-1))]) rfl (C257.aL (Y29 80 rfl) rfl rfl (C257.iLk (Y29 81 rfl) rfl (C257.ic (z := 2) (Y29 82 rfl) rfl (C257.ad (z := ((Int32.ofNat hs) + (2 : Int32))) (Y29 83 rfl) rfl ?_))))
        rw [show ((Int32.ofNat hs) + (2 : Int32)) = (Int32.ofNat (hs + 2)) from own_add _ 2]
        refine C257.iLk (Y29 84 rfl) rfl ?_
        refine C257.virtual (W := 0) (W115 hw) (W116 hw) (fun _ q => notFace_of_selects (args := #[]) (mvT q (W118 hw))) (W118 hw) (W117 hw) (W119 hw) (W10 hw) (by decide) (rm_sub l Z a0 EL G a t kb cs (hs + 2) qm h252 C257.old f254 (by have := own_ps_ge ca; omega) (by omega) (by omega)) (fun z => nomatch z) rfl f256 all0 (by decide) (by decide) (by decide) (by decide) (lenOf pd_16 rfl) rfl (nb rfl) rfl (Y29 85 rfl) (pc' := 172) rfl ?_
        intro vm264 T264 h264 v264 C264 A264 M264 q264
        obtain ⟨x264, d264, kd264, rfl, K264, Z264⟩ := q264
        refine C264.aSk (Y29 86 rfl) rfl (l' := #[.val (.ref a), .val (.int z1), .val (.int (Int32.ofNat fm)), l3, .val (.int (Int32.ofNat qm)), .val (.int (Int32.ofNat se)), .val (.int d), .val (.int (Int32.ofNat hs)), .val (.ref x264), .val (.int (Int32.ofNat qm)), .val (.int (-1))]) rfl (C264.go (pc' := 184) (Y29 87 rfl) (by decide) rfl ?_)
        have KK265 := (kT KK253 K264 all0)
        exact J184 z1 fm qm se d hs qm (.ref x264) l3 (.val (.int (-1))) vm264 T264 h264 hfm hz hqm hse hd hps1 (by rw [own_aut, if_pos ca, ← hhs, ← hps1]; exact OS.mk Z264) KK265 (CHr.trans (CHr.trans (CHr.trans (CHr.trans A A252) A255) A257) A264) C264
    · refine C.aL (Y29 59 rfl) rfl rfl ?_
      refine C.ldcC (N := 8) (vs := (bys [(47 : Int32), (47 : Int32)])) (z := (2 : Int32)) (W107 hw) G.wS (by rw [G.el]; decide) ⟨by decide, by decide⟩ (by decide) (by decide) (by decide) (by decide) (by decide) (by decide) (Y29 60 rfl) (pc' := 121) rfl rfl ?_
      intro vm266 T266 h266 a266 b266 kA266 C266 K266 A266 E266 F266 f266 V266 r266
      have Z266 : Str Z h266 a266 b266 kA266 [(47 : Int32), (47 : Int32)] := ⟨E266, F266, f266, V266, (own_cS ⟨by decide, by decide⟩ (own_cS ⟨by decide, by decide⟩ own_c0)), by decide⟩
      refine C266.iLk (Y29 61 rfl) rfl ?_
      have KK267 := (kT (kT (kR h []) K all0) K266 all0)
      have f268 := (S.keep KK267 nin0 nin0)
      have f270 := (S.1.keep KK267)
      refine C266.virtual (W := 0) (wd hw 108 rfl) (W109 hw) (fun _ q => notFace_of_selects (args := #[]) (mvT q (W111 hw))) (W111 hw) (W110 hw) (W112 hw) (W10 hw) (by decide) (rm_sw2 l Z a0 EL G a t kb cs a266 b266 kA266 [(47 : Int32), (47 : Int32)] hs h266 C266.old f268 Z266 (by omega) (nb rfl)) (fun _ => rfl) rfl f270 all0 (by decide) (by decide) (by decide) (by decide) (lenOf pd_35 rfl) rfl (nb rfl) rfl (Y29 62 rfl) (pc' := 126) rfl ?_
      intro vm269 T269 h269 v269 C269 A269 M269 q269
      obtain ⟨rfl, rfl⟩ := q269
      refine C269.fY (pc' := 177) (Y29 63 rfl) (XT.i0_eq_t (by rw [own_sw, if_neg (show ¬ own_pre [47, 47] (cs.drop hs) = true from by rw [hhs]; exact c251)])) (by decide) rfl (C269.iLk (Y29 88 rfl) rfl (C269.iSk (Y29 89 rfl) (l' := #[.val (.ref a), .val (.int z1), .val (.int (Int32.ofNat fm)), l3, .val (.int (Int32.ofNat qm)), .val (.int (Int32.ofNat se)), .val (.int d), .val (.int (Int32.ofNat hs)), .unset, .val (.int (Int32.ofNat hs)), .unset]) rfl (C269.nu (Y29 90 rfl) (C269.aSk (Y29 91 rfl) rfl (l' := #[.val (.ref a), .val (.int z1), .val (.int (Int32.ofNat fm)), l3, .val (.int (Int32.ofNat qm)), .val (.int (Int32.ofNat se)), .val (.int d), .val (.int (Int32.ofNat hs)), .val .null, .val (.int (Int32.ofNat hs)), .unset]) rfl ?_))))
      exact J184 z1 fm qm se d hs hs .null l3 (.unset) vm269 T269 h266 hfm hz hqm hse hd (by rw [own_ps, if_neg c251, ← hhs]) (by rw [own_aut, if_neg c251]; exact OS.nil) KK267 (CHr.trans (CHr.trans A A266) A269) (C269.more (k' := 16) (n' := 96) (by decide) (by decide))
  have J73 : ∀ (z1 : Int32) (fm : Nat) (qm : Nat) (se : Nat) (l3 : Slot) (vm : Vm) (T : State) (hh : Heap), (fm = own_ix 35 cs) → ((fm < cs.length ∧ z1 = Int32.ofNat fm) ∨ (fm = cs.length ∧ z1 = -1)) → (qm = own_qm cs) → (se = own_se cs) → (Keep h hh []) → (CHr Z EL s.vm h vm hh) → Core p l e ⟨6, 25, 149, 99⟩ s m #[(.ref a)] below meth c prog_4_method_2_code 11 (some (.object "com/example/quadrille/quadrille/rdf/BaseIri$Components")) "of" "com/example/quadrille/quadrille/rdf/BaseIri$Components" Z a0 EL false vm T hh 12 72 → Endw p e below T (mkF m 73 #[.val (.ref a), .val (.int z1), .val (.int (Int32.ofNat fm)), l3, .val (.int (Int32.ofNat qm)), .val (.int (Int32.ofNat se)), .unset, .unset, .unset, .unset, .unset] []) (Fin s Z EL false (fun r h' => ∃ x : Addr, r = some (.ref x) ∧ Keep h h' [] ∧ h.size ≤ x ∧ Z.heap.size ≤ x ∧ Cmp Z h' x (own_sch cs) (own_aut cs) (own_pth cs) (own_qry cs) (own_frg cs)) (({ frames := 6, cells := 25, slots := 149, locals := 99 } : Room)).cells (({ frames := 6, cells := 25, slots := 149, locals := 99 } : Room)).slots) := by
    intro z1 fm qm se l3 vm T hh hfm hz hqm hse K A C
    refine C.iLk (Y29 37 rfl) rfl ?_
    by_cases c271 : (0 : Int32) < (Int32.ofNat se)
    · refine C.fN (Y29 38 rfl) (XT.i0_le_f c271) (C.iLk (Y29 39 rfl) rfl (C.iLk (Y29 40 rfl) rfl ?_))
      by_cases c272 : (Int32.ofNat se) < (Int32.ofNat qm)
      · refine C.cN (Y29 41 rfl) (XT.ii_ge_f c272) (C.aL (Y29 42 rfl) rfl rfl (C.iLk (Y29 43 rfl) rfl ?_))
        have f273 := (S.keep K nin0 nin0)
        have f275 := (S.1.keep K)
        refine C.virtual (W := 0) (W91 hw) (W92 hw) (fun _ q => notFace_of_selects (args := #[]) (mvT q (W94 hw))) (W94 hw) (W93 hw) (W95 hw) (W10 hw) (by decide) (rm_chr l Z a0 EL G a t kb cs se (cs.getD se 0) hh C.old f273 (by have := (own_lt (by omega) (by omega)).mp c272; omega) rfl) (fun _ => rfl) rfl f275 all0 (by decide) (by decide) (by decide) (by decide) (lenOf pd_28492943 rfl) rfl (nb rfl) rfl (Y29 44 rfl) (pc' := 91) rfl ?_
        intro vm274 T274 h274 v274 C274 A274 M274 q274
        obtain ⟨rfl, rfl⟩ := q274
        refine C274.bi (z := 58) (Y29 45 rfl) rfl ?_
        by_cases c276 : (cs.getD se 0) = (58 : Int32)
        · refine C274.cN (Y29 46 rfl) (XT.ii_ne_f c276) (C274.ic (z := 1) (Y29 47 rfl) rfl (C274.go (pc' := 101) (Y29 48 rfl) (by decide) rfl (C274.iSk (Y29 50 rfl) (l' := #[.val (.ref a), .val (.int z1), .val (.int (Int32.ofNat fm)), l3, .val (.int (Int32.ofNat qm)), .val (.int (Int32.ofNat se)), .val (.int 1), .unset, .unset, .unset, .unset]) rfl (C274.iLk (Y29 51 rfl) rfl (C274.fN (Y29 52 rfl) (XT.i0_eq_f (by decide)) (C274.iLk (Y29 53 rfl) rfl (C274.ic (z := 1) (Y29 54 rfl) rfl (C274.ad (z := ((Int32.ofNat se) + (1 : Int32))) (Y29 55 rfl) rfl ?_))))))))
          rw [show ((Int32.ofNat se) + (1 : Int32)) = (Int32.ofNat (se + 1)) from own_inc _]
          refine C274.go (pc' := 116) (Y29 56 rfl) (by decide) rfl (C274.iSk (Y29 58 rfl) (l' := #[.val (.ref a), .val (.int z1), .val (.int (Int32.ofNat fm)), l3, .val (.int (Int32.ofNat qm)), .val (.int (Int32.ofNat se)), .val (.int 1), .val (.int (Int32.ofNat (se + 1))), .unset, .unset, .unset]) rfl ?_)
          exact J118 z1 fm qm se 1 (se + 1) l3 vm274 T274 hh hfm hz hqm hse (Or.inl ⟨rfl, by rw [own_hsB, ← hse, ← hqm]; exact ⟨((own_lt (a := 0) (by omega) (by omega)).mp c271), (own_lt (by omega) (by omega)).mp c272, c276⟩, rfl⟩) K (CHr.trans A A274) C274
        · refine C274.cY (pc' := 100) (Y29 46 rfl) (XT.ii_ne_t c276) (by decide) rfl (C274.ic (z := 0) (Y29 49 rfl) rfl (C274.iSk (Y29 50 rfl) (l' := #[.val (.ref a), .val (.int z1), .val (.int (Int32.ofNat fm)), l3, .val (.int (Int32.ofNat qm)), .val (.int (Int32.ofNat se)), .val (.int 0), .unset, .unset, .unset, .unset]) rfl (C274.iLk (Y29 51 rfl) rfl (C274.fY (pc' := 115) (Y29 52 rfl) (XT.i0_eq_t (by decide)) (by decide) rfl (C274.ic (z := 0) (Y29 57 rfl) rfl (C274.iSk (Y29 58 rfl) (l' := #[.val (.ref a), .val (.int z1), .val (.int (Int32.ofNat fm)), l3, .val (.int (Int32.ofNat qm)), .val (.int (Int32.ofNat se)), .val (.int 0), .val (.int 0), .unset, .unset, .unset]) rfl ?_))))))
          exact J118 z1 fm qm se 0 0 l3 vm274 T274 hh hfm hz hqm hse (Or.inr ⟨rfl, by rw [own_hsB, ← hse, ← hqm]; exact fun q => c276 q.2.2, rfl⟩) K (CHr.trans A A274) C274
      · refine C.cY (pc' := 100) (Y29 41 rfl) (XT.ii_ge_t c272) (by decide) rfl (C.ic (z := 0) (Y29 49 rfl) rfl (C.iSk (Y29 50 rfl) (l' := #[.val (.ref a), .val (.int z1), .val (.int (Int32.ofNat fm)), l3, .val (.int (Int32.ofNat qm)), .val (.int (Int32.ofNat se)), .val (.int 0), .unset, .unset, .unset, .unset]) rfl (C.iLk (Y29 51 rfl) rfl (C.fY (pc' := 115) (Y29 52 rfl) (XT.i0_eq_t (by decide)) (by decide) rfl (C.ic (z := 0) (Y29 57 rfl) rfl (C.iSk (Y29 58 rfl) (l' := #[.val (.ref a), .val (.int z1), .val (.int (Int32.ofNat fm)), l3, .val (.int (Int32.ofNat qm)), .val (.int (Int32.ofNat se)), .val (.int 0), .val (.int 0), .unset, .unset, .unset]) rfl ?_))))))
        exact J118 z1 fm qm se 0 0 l3 vm T hh hfm hz hqm hse (Or.inr ⟨rfl, by rw [own_hsB, ← hse, ← hqm]; exact fun q => c272 ((own_lt (by omega) (by omega)).mpr q.2.1), rfl⟩) K A C
    · refine C.fY (pc' := 100) (Y29 38 rfl) (XT.i0_le_t c271) (by decide) rfl (C.ic (z := 0) (Y29 49 rfl) rfl (C.iSk (Y29 50 rfl) (l' := #[.val (.ref a), .val (.int z1), .val (.int (Int32.ofNat fm)), l3, .val (.int (Int32.ofNat qm)), .val (.int (Int32.ofNat se)), .val (.int 0), .unset, .unset, .unset, .unset]) rfl (C.iLk (Y29 51 rfl) rfl (C.fY (pc' := 115) (Y29 52 rfl) (XT.i0_eq_t (by decide)) (by decide) rfl (C.ic (z := 0) (Y29 57 rfl) rfl (C.iSk (Y29 58 rfl) (l' := #[.val (.ref a), .val (.int z1), .val (.int (Int32.ofNat fm)), l3, .val (.int (Int32.ofNat qm)), .val (.int (Int32.ofNat se)), .val (.int 0), .val (.int 0), .unset, .unset, .unset]) rfl ?_))))))
      exact J118 z1 fm qm se 0 0 l3 vm T hh hfm hz hqm hse (Or.inr ⟨rfl, by rw [own_hsB, ← hse, ← hqm]; exact fun q => c271 ((own_lt (a := 0) (by omega) (by omega)).mpr q.1), rfl⟩) K A C
  have J43 : ∀ (z1 : Int32) (fm : Nat) (qm : Nat) (l3 : Slot) (vm : Vm) (T : State) , (fm = own_ix 35 cs) → ((fm < cs.length ∧ z1 = Int32.ofNat fm) ∨ (fm = cs.length ∧ z1 = -1)) → (qm = own_qm cs) → (CHr Z EL s.vm h vm h) → Core p l e ⟨6, 25, 149, 99⟩ s m #[(.ref a)] below meth c prog_4_method_2_code 11 (some (.object "com/example/quadrille/quadrille/rdf/BaseIri$Components")) "of" "com/example/quadrille/quadrille/rdf/BaseIri$Components" Z a0 EL false vm T h 0 0 → Endw p e below T (mkF m 43 #[.val (.ref a), .val (.int z1), .val (.int (Int32.ofNat fm)), l3, .val (.int (Int32.ofNat qm)), .unset, .unset, .unset, .unset, .unset, .unset] []) (Fin s Z EL false (fun r h' => ∃ x : Addr, r = some (.ref x) ∧ Keep h h' [] ∧ h.size ≤ x ∧ Z.heap.size ≤ x ∧ Cmp Z h' x (own_sch cs) (own_aut cs) (own_pth cs) (own_qry cs) (own_frg cs)) (({ frames := 6, cells := 25, slots := 149, locals := 99 } : Room)).cells (({ frames := 6, cells := 25, slots := 149, locals := 99 } : Room)).slots) := by
    intro z1 fm qm l3 vm T hfm hz hqm A C
    refine C.ic (z := 0) (Y29 24 rfl) rfl (C.iSk (Y29 25 rfl) (l' := #[.val (.ref a), .val (.int z1), .val (.int (Int32.ofNat fm)), l3, .val (.int (Int32.ofNat qm)), .val (.int 0), .unset, .unset, .unset, .unset, .unset]) rfl ?_)
    have hD0 : own_sc (cs.take qm) = 0 + own_sc ((cs.take qm).drop 0) := (Nat.zero_add _).symm
    by_cases c277 : 0 < qm
    · obtain ⟨x0_, r0_, ec0, -, eg0, -⟩ := (own_at (cs.take qm) (i := 0) (by rw [List.length_take]; omega)).resolve_left (fun q => absurd q.2 (by rw [List.length_take]; omega))
      rw [own_takeD c277] at eg0
      have bx0 : B8 x0_ := by rw [← eg0]; exact own_getAll (by omega) S.2.2.2.2.1
      refine C.iLk (Y29 26 rfl) rfl (C.iLk (Y29 27 rfl) rfl (C.cN (Y29 28 rfl) (XT.ii_ge_f ((own_lt (a := 0) (by omega) (by omega)).mpr c277)) ?_))
      refine C.ldcC (N := 8) (vs := (bys [(58 : Int32), (47 : Int32)])) (z := (2 : Int32)) (W88 hw) G.wS (by rw [G.el]; decide) ⟨by decide, by decide⟩ (by decide) (by decide) (by decide) (by decide) (by decide) (by decide) (Y29 29 rfl) (pc' := 55) rfl rfl ?_
      intro vm278 T278 h278 a278 b278 kA278 C278 K278 A278 E278 F278 f278 V278 r278
      have Z278 : Str Z h278 a278 b278 kA278 [(58 : Int32), (47 : Int32)] := ⟨E278, F278, f278, V278, (own_cS ⟨by decide, by decide⟩ (own_cS ⟨by decide, by decide⟩ own_c0)), by decide⟩
      refine C278.aL (Y29 30 rfl) rfl rfl (C278.iLk (Y29 31 rfl) rfl ?_)
      have f279 := (S.keep K278 nin0 nin0)
      have f281 := (S.1.keep K278)
      refine C278.virtual (W := 1) (W91 hw) (W92 hw) (fun _ q => notFace_of_selects (args := #[]) (mvT q (W94 hw))) (W94 hw) (W93 hw) (W95 hw) (W10 hw) (by decide) (rm_chr l Z a0 EL G a t kb cs 0 x0_ h278 C278.old f279 (by omega) eg0) (fun _ => rfl) rfl f281 all0 (by decide) (by decide) (by decide) (by decide) (lenOf pd_28492943 rfl) rfl (nb rfl) rfl (Y29 32 rfl) (pc' := 61) rfl ?_
      intro vm280 T280 h280 v280 C280 A280 M280 q280
      obtain ⟨rfl, rfl⟩ := q280
      refine C280.virtual (W := 0) (W45 hw) (W46 hw) (fun _ q => notFace_of_selects (args := #[]) (mvT q (W48 hw))) (W48 hw) (W47 hw) (W49 hw) (W10 hw) (by decide) (rm_ix1 l Z a0 EL G a278 b278 kA278 [(58 : Int32), (47 : Int32)] x0_  h278 C280.old Z278 bx0 ) (fun _ => rfl) rfl E278 all0 (by decide) (by decide) (by decide) (by decide) (lenOf pd_28492949 rfl) rfl (nb rfl) rfl (Y29 33 rfl) (pc' := 64) rfl ?_
      intro vm282 T282 h282 v282 C282 A282 M282 q282
      obtain ⟨z282, rfl, e282, rfl⟩ := q282
      rcases own_sepF e282 with ⟨nz283, hs283⟩ | ⟨rfl, n1_283, n2_283⟩
      · refine C282.fY (pc' := 73) (Y29 34 rfl) (XT.i0_ge_t nz283) (by decide) rfl ?_
        exact J73 z1 fm qm 0 l3 vm282 T282 h278 hfm hz hqm (by rw [own_se, ← hqm]; exact (own_scY hD0 ec0 hs283).symm) K278 (CHr.trans (CHr.trans (CHr.trans A A278) A280) A282) (C282.more (k' := 12) (n' := 72) (by decide) (by decide))
      · show Endw p e below T282 (mkF m 64 #[.val (.ref a), .val (.int z1), .val (.int (Int32.ofNat fm)), l3, .val (.int (Int32.ofNat qm)), .val (.int 0), .unset, .unset, .unset, .unset, .unset] [(.int (-1))]) _
        refine C282.fN (Y29 34 rfl) (XT.i0_ge_f (by decide)) ?_
        refine Endw.st (T' := T282) (g' := (mkF m 70 #[.val (.ref a), .val (.int z1), .val (.int (Int32.ofNat fm)), l3, .val (.int (Int32.ofNat qm)), .val (.int 1), .unset, .unset, .unset, .unset, .unset] [])) (fun _ k_ => XS.iinc C282.here C282.hx rfl (C282.dec (Y29 35 rfl)) rfl (l' := #[.val (.ref a), .val (.int z1), .val (.int (Int32.ofNat fm)), l3, .val (.int (Int32.ofNat qm)), .val (.int 1), .unset, .unset, .unset, .unset, .unset]) rfl k_) ?_
        refine C282.go (pc' := 46) (Y29 36 rfl) (by decide) rfl ?_
        have hD1 := own_scStep hD0 ec0 n1_283 n2_283
        by_cases c284 : 1 < qm
        · obtain ⟨x1_, r1_, ec1, -, eg1, -⟩ := (own_at (cs.take qm) (i := 1) (by rw [List.length_take]; omega)).resolve_left (fun q => absurd q.2 (by rw [List.length_take]; omega))
          rw [own_takeD c284] at eg1
          have bx1 : B8 x1_ := by rw [← eg1]; exact own_getAll (by omega) S.2.2.2.2.1
          refine C282.iLk (Y29 26 rfl) rfl (C282.iLk (Y29 27 rfl) rfl (C282.cN (Y29 28 rfl) (XT.ii_ge_f ((own_lt (a := 1) (by omega) (by omega)).mpr c284)) ?_))
          refine C282.ldcC (N := 8) (vs := (bys [(58 : Int32), (47 : Int32)])) (z := (2 : Int32)) (W88 hw) G.wS (by rw [G.el]; decide) ⟨by decide, by decide⟩ (by decide) (by decide) (by decide) (by decide) (by decide) (by decide) (Y29 29 rfl) (pc' := 55) rfl rfl ?_
          intro vm285 T285 h285 a285 b285 kA285 C285 K285 A285 E285 F285 f285 V285 r285
          have Z285 : Str Z h285 a285 b285 kA285 [(58 : Int32), (47 : Int32)] := ⟨E285, F285, f285, V285, (own_cS ⟨by decide, by decide⟩ (own_cS ⟨by decide, by decide⟩ own_c0)), by decide⟩
          refine C285.aL (Y29 30 rfl) rfl rfl (C285.iLk (Y29 31 rfl) rfl ?_)
          have f286 := (f279.keep K285 nin0 nin0)
          have f288 := (f281.keep K285)
          refine C285.virtual (W := 1) (W91 hw) (W92 hw) (fun _ q => notFace_of_selects (args := #[]) (mvT q (W94 hw))) (W94 hw) (W93 hw) (W95 hw) (W10 hw) (by decide) (rm_chr l Z a0 EL G a t kb cs 1 x1_ h285 C285.old f286 (by omega) eg1) (fun _ => rfl) rfl f288 all0 (by decide) (by decide) (by decide) (by decide) (lenOf pd_28492943 rfl) rfl (nb rfl) rfl (Y29 32 rfl) (pc' := 61) rfl ?_
          intro vm287 T287 h287 v287 C287 A287 M287 q287
          obtain ⟨rfl, rfl⟩ := q287
          refine C287.virtual (W := 0) (W45 hw) (W46 hw) (fun _ q => notFace_of_selects (args := #[]) (mvT q (W48 hw))) (W48 hw) (W47 hw) (W49 hw) (W10 hw) (by decide) (rm_ix1 l Z a0 EL G a285 b285 kA285 [(58 : Int32), (47 : Int32)] x1_  h285 C287.old Z285 bx1 ) (fun _ => rfl) rfl E285 all0 (by decide) (by decide) (by decide) (by decide) (lenOf pd_28492949 rfl) rfl (nb rfl) rfl (Y29 33 rfl) (pc' := 64) rfl ?_
          intro vm289 T289 h289 v289 C289 A289 M289 q289
          obtain ⟨z289, rfl, e289, rfl⟩ := q289
          rcases own_sepF e289 with ⟨nz290, hs290⟩ | ⟨rfl, n1_290, n2_290⟩
          · refine C289.fY (pc' := 73) (Y29 34 rfl) (XT.i0_ge_t nz290) (by decide) rfl ?_
            have KK291 := (kT (kT (kR h []) K278 all0) K285 all0)
            exact J73 z1 fm qm 1 l3 vm289 T289 h285 hfm hz hqm (by rw [own_se, ← hqm]; exact (own_scY hD1 ec1 hs290).symm) KK291 (CHr.trans (CHr.trans (CHr.trans (CHr.trans (CHr.trans (CHr.trans A A278) A280) A282) A285) A287) A289) (C289.more (k' := 12) (n' := 72) (by decide) (by decide))
          · show Endw p e below T289 (mkF m 64 #[.val (.ref a), .val (.int z1), .val (.int (Int32.ofNat fm)), l3, .val (.int (Int32.ofNat qm)), .val (.int 1), .unset, .unset, .unset, .unset, .unset] [(.int (-1))]) _
            refine C289.fN (Y29 34 rfl) (XT.i0_ge_f (by decide)) ?_
            refine Endw.st (T' := T289) (g' := (mkF m 70 #[.val (.ref a), .val (.int z1), .val (.int (Int32.ofNat fm)), l3, .val (.int (Int32.ofNat qm)), .val (.int 2), .unset, .unset, .unset, .unset, .unset] [])) (fun _ k_ => XS.iinc C289.here C289.hx rfl (C289.dec (Y29 35 rfl)) rfl (l' := #[.val (.ref a), .val (.int z1), .val (.int (Int32.ofNat fm)), l3, .val (.int (Int32.ofNat qm)), .val (.int 2), .unset, .unset, .unset, .unset, .unset]) rfl k_) ?_
            refine C289.go (pc' := 46) (Y29 36 rfl) (by decide) rfl ?_
            have hD2 := own_scStep hD1 ec1 n1_290 n2_290
            by_cases c292 : 2 < qm
            · obtain ⟨x2_, r2_, ec2, -, eg2, -⟩ := (own_at (cs.take qm) (i := 2) (by rw [List.length_take]; omega)).resolve_left (fun q => absurd q.2 (by rw [List.length_take]; omega))
              rw [own_takeD c292] at eg2
              have bx2 : B8 x2_ := by rw [← eg2]; exact own_getAll (by omega) S.2.2.2.2.1
              refine C289.iLk (Y29 26 rfl) rfl (C289.iLk (Y29 27 rfl) rfl (C289.cN (Y29 28 rfl) (XT.ii_ge_f ((own_lt (a := 2) (by omega) (by omega)).mpr c292)) ?_))
              refine C289.ldcC (N := 8) (vs := (bys [(58 : Int32), (47 : Int32)])) (z := (2 : Int32)) (W88 hw) G.wS (by rw [G.el]; decide) ⟨by decide, by decide⟩ (by decide) (by decide) (by decide) (by decide) (by decide) (by decide) (Y29 29 rfl) (pc' := 55) rfl rfl ?_
              intro vm293 T293 h293 a293 b293 kA293 C293 K293 A293 E293 F293 f293 V293 r293
              have Z293 : Str Z h293 a293 b293 kA293 [(58 : Int32), (47 : Int32)] := ⟨E293, F293, f293, V293, (own_cS ⟨by decide, by decide⟩ (own_cS ⟨by decide, by decide⟩ own_c0)), by decide⟩
              refine C293.aL (Y29 30 rfl) rfl rfl (C293.iLk (Y29 31 rfl) rfl ?_)
              have f294 := (f286.keep K293 nin0 nin0)
              have f296 := (f288.keep K293)
              refine C293.virtual (W := 1) (W91 hw) (W92 hw) (fun _ q => notFace_of_selects (args := #[]) (mvT q (W94 hw))) (W94 hw) (W93 hw) (W95 hw) (W10 hw) (by decide) (rm_chr l Z a0 EL G a t kb cs 2 x2_ h293 C293.old f294 (by omega) eg2) (fun _ => rfl) rfl f296 all0 (by decide) (by decide) (by decide) (by decide) (lenOf pd_28492943 rfl) rfl (nb rfl) rfl (Y29 32 rfl) (pc' := 61) rfl ?_
              intro vm295 T295 h295 v295 C295 A295 M295 q295
              obtain ⟨rfl, rfl⟩ := q295
              refine C295.virtual (W := 0) (W45 hw) (W46 hw) (fun _ q => notFace_of_selects (args := #[]) (mvT q (W48 hw))) (W48 hw) (W47 hw) (W49 hw) (W10 hw) (by decide) (rm_ix1 l Z a0 EL G a293 b293 kA293 [(58 : Int32), (47 : Int32)] x2_  h293 C295.old Z293 bx2 ) (fun _ => rfl) rfl E293 all0 (by decide) (by decide) (by decide) (by decide) (lenOf pd_28492949 rfl) rfl (nb rfl) rfl (Y29 33 rfl) (pc' := 64) rfl ?_
              intro vm297 T297 h297 v297 C297 A297 M297 q297
              obtain ⟨z297, rfl, e297, rfl⟩ := q297
              rcases own_sepF e297 with ⟨nz298, hs298⟩ | ⟨rfl, n1_298, n2_298⟩
              · refine C297.fY (pc' := 73) (Y29 34 rfl) (XT.i0_ge_t nz298) (by decide) rfl ?_
                have KK299 := (kT (kT (kT (kR h []) K278 all0) K285 all0) K293 all0)
                exact J73 z1 fm qm 2 l3 vm297 T297 h293 hfm hz hqm (by rw [own_se, ← hqm]; exact (own_scY hD2 ec2 hs298).symm) KK299 (CHr.trans (CHr.trans (CHr.trans (CHr.trans (CHr.trans (CHr.trans (CHr.trans (CHr.trans (CHr.trans A A278) A280) A282) A285) A287) A289) A293) A295) A297) (C297.more (k' := 12) (n' := 72) (by decide) (by decide))
              · show Endw p e below T297 (mkF m 64 #[.val (.ref a), .val (.int z1), .val (.int (Int32.ofNat fm)), l3, .val (.int (Int32.ofNat qm)), .val (.int 2), .unset, .unset, .unset, .unset, .unset] [(.int (-1))]) _
                refine C297.fN (Y29 34 rfl) (XT.i0_ge_f (by decide)) ?_
                refine Endw.st (T' := T297) (g' := (mkF m 70 #[.val (.ref a), .val (.int z1), .val (.int (Int32.ofNat fm)), l3, .val (.int (Int32.ofNat qm)), .val (.int 3), .unset, .unset, .unset, .unset, .unset] [])) (fun _ k_ => XS.iinc C297.here C297.hx rfl (C297.dec (Y29 35 rfl)) rfl (l' := #[.val (.ref a), .val (.int z1), .val (.int (Int32.ofNat fm)), l3, .val (.int (Int32.ofNat qm)), .val (.int 3), .unset, .unset, .unset, .unset, .unset]) rfl k_) ?_
                refine C297.go (pc' := 46) (Y29 36 rfl) (by decide) rfl ?_
                have hD3 := own_scStep hD2 ec2 n1_298 n2_298
                by_cases c300 : 3 < qm
                · obtain ⟨x3_, r3_, ec3, -, eg3, -⟩ := (own_at (cs.take qm) (i := 3) (by rw [List.length_take]; omega)).resolve_left (fun q => absurd q.2 (by rw [List.length_take]; omega))
                  rw [own_takeD c300] at eg3
                  have bx3 : B8 x3_ := by rw [← eg3]; exact own_getAll (by omega) S.2.2.2.2.1
                  refine C297.iLk (Y29 26 rfl) rfl (C297.iLk (Y29 27 rfl) rfl (C297.cN (Y29 28 rfl) (XT.ii_ge_f ((own_lt (a := 3) (by omega) (by omega)).mpr c300)) ?_))
                  refine C297.ldcC (N := 8) (vs := (bys [(58 : Int32), (47 : Int32)])) (z := (2 : Int32)) (W88 hw) G.wS (by rw [G.el]; decide) ⟨by decide, by decide⟩ (by decide) (by decide) (by decide) (by decide) (by decide) (by decide) (Y29 29 rfl) (pc' := 55) rfl rfl ?_
                  intro vm301 T301 h301 a301 b301 kA301 C301 K301 A301 E301 F301 f301 V301 r301
                  have Z301 : Str Z h301 a301 b301 kA301 [(58 : Int32), (47 : Int32)] := ⟨E301, F301, f301, V301, (own_cS ⟨by decide, by decide⟩ (own_cS ⟨by decide, by decide⟩ own_c0)), by decide⟩
                  refine C301.aL (Y29 30 rfl) rfl rfl (C301.iLk (Y29 31 rfl) rfl ?_)
                  have f302 := (f294.keep K301 nin0 nin0)
                  have f304 := (f296.keep K301)
                  refine C301.virtual (W := 1) (W91 hw) (W92 hw) (fun _ q => notFace_of_selects (args := #[]) (mvT q (W94 hw))) (W94 hw) (W93 hw) (W95 hw) (W10 hw) (by decide) (rm_chr l Z a0 EL G a t kb cs 3 x3_ h301 C301.old f302 (by omega) eg3) (fun _ => rfl) rfl f304 all0 (by decide) (by decide) (by decide) (by decide) (lenOf pd_28492943 rfl) rfl (nb rfl) rfl (Y29 32 rfl) (pc' := 61) rfl ?_
                  intro vm303 T303 h303 v303 C303 A303 M303 q303
                  obtain ⟨rfl, rfl⟩ := q303
                  refine C303.virtual (W := 0) (W45 hw) (W46 hw) (fun _ q => notFace_of_selects (args := #[]) (mvT q (W48 hw))) (W48 hw) (W47 hw) (W49 hw) (W10 hw) (by decide) (rm_ix1 l Z a0 EL G a301 b301 kA301 [(58 : Int32), (47 : Int32)] x3_  h301 C303.old Z301 bx3 ) (fun _ => rfl) rfl E301 all0 (by decide) (by decide) (by decide) (by decide) (lenOf pd_28492949 rfl) rfl (nb rfl) rfl (Y29 33 rfl) (pc' := 64) rfl ?_
                  intro vm305 T305 h305 v305 C305 A305 M305 q305
                  obtain ⟨z305, rfl, e305, rfl⟩ := q305
                  rcases own_sepF e305 with ⟨nz306, hs306⟩ | ⟨rfl, n1_306, n2_306⟩
                  · refine C305.fY (pc' := 73) (Y29 34 rfl) (XT.i0_ge_t nz306) (by decide) rfl ?_
                    have KK307 := (kT (kT (kT (kT (kR h []) K278 all0) K285 all0) K293 all0) K301 all0)
                    exact J73 z1 fm qm 3 l3 vm305 T305 h301 hfm hz hqm (by rw [own_se, ← hqm]; exact (own_scY hD3 ec3 hs306).symm) KK307 (CHr.trans (CHr.trans (CHr.trans (CHr.trans (CHr.trans (CHr.trans (CHr.trans (CHr.trans (CHr.trans (CHr.trans (CHr.trans (CHr.trans A A278) A280) A282) A285) A287) A289) A293) A295) A297) A301) A303) A305) (C305.more (k' := 12) (n' := 72) (by decide) (by decide))
                  · show Endw p e below T305 (mkF m 64 #[.val (.ref a), .val (.int z1), .val (.int (Int32.ofNat fm)), l3, .val (.int (Int32.ofNat qm)), .val (.int 3), .unset, .unset, .unset, .unset, .unset] [(.int (-1))]) _
                    refine C305.fN (Y29 34 rfl) (XT.i0_ge_f (by decide)) ?_
                    refine Endw.st (T' := T305) (g' := (mkF m 70 #[.val (.ref a), .val (.int z1), .val (.int (Int32.ofNat fm)), l3, .val (.int (Int32.ofNat qm)), .val (.int 4), .unset, .unset, .unset, .unset, .unset] [])) (fun _ k_ => XS.iinc C305.here C305.hx rfl (C305.dec (Y29 35 rfl)) rfl (l' := #[.val (.ref a), .val (.int z1), .val (.int (Int32.ofNat fm)), l3, .val (.int (Int32.ofNat qm)), .val (.int 4), .unset, .unset, .unset, .unset, .unset]) rfl k_) ?_
                    refine C305.go (pc' := 46) (Y29 36 rfl) (by decide) rfl ?_
                    have hD4 := own_scStep hD3 ec3 n1_306 n2_306
                    by_cases c308 : 4 < qm
                    · obtain ⟨x4_, r4_, ec4, -, eg4, -⟩ := (own_at (cs.take qm) (i := 4) (by rw [List.length_take]; omega)).resolve_left (fun q => absurd q.2 (by rw [List.length_take]; omega))
                      rw [own_takeD c308] at eg4
                      have bx4 : B8 x4_ := by rw [← eg4]; exact own_getAll (by omega) S.2.2.2.2.1
                      refine C305.iLk (Y29 26 rfl) rfl (C305.iLk (Y29 27 rfl) rfl (C305.cN (Y29 28 rfl) (XT.ii_ge_f ((own_lt (a := 4) (by omega) (by omega)).mpr c308)) ?_))
                      refine C305.ldcC (N := 8) (vs := (bys [(58 : Int32), (47 : Int32)])) (z := (2 : Int32)) (W88 hw) G.wS (by rw [G.el]; decide) ⟨by decide, by decide⟩ (by decide) (by decide) (by decide) (by decide) (by decide) (by decide) (Y29 29 rfl) (pc' := 55) rfl rfl ?_
                      intro vm309 T309 h309 a309 b309 kA309 C309 K309 A309 E309 F309 f309 V309 r309
                      have Z309 : Str Z h309 a309 b309 kA309 [(58 : Int32), (47 : Int32)] := ⟨E309, F309, f309, V309, (own_cS ⟨by decide, by decide⟩ (own_cS ⟨by decide, by decide⟩ own_c0)), by decide⟩
                      refine C309.aL (Y29 30 rfl) rfl rfl (C309.iLk (Y29 31 rfl) rfl ?_)
                      have f310 := (f302.keep K309 nin0 nin0)
                      have f312 := (f304.keep K309)
                      refine C309.virtual (W := 1) (W91 hw) (W92 hw) (fun _ q => notFace_of_selects (args := #[]) (mvT q (W94 hw))) (W94 hw) (W93 hw) (W95 hw) (W10 hw) (by decide) (rm_chr l Z a0 EL G a t kb cs 4 x4_ h309 C309.old f310 (by omega) eg4) (fun _ => rfl) rfl f312 all0 (by decide) (by decide) (by decide) (by decide) (lenOf pd_28492943 rfl) rfl (nb rfl) rfl (Y29 32 rfl) (pc' := 61) rfl ?_
                      intro vm311 T311 h311 v311 C311 A311 M311 q311
                      obtain ⟨rfl, rfl⟩ := q311
                      refine C311.virtual (W := 0) (W45 hw) (W46 hw) (fun _ q => notFace_of_selects (args := #[]) (mvT q (W48 hw))) (W48 hw) (W47 hw) (W49 hw) (W10 hw) (by decide) (rm_ix1 l Z a0 EL G a309 b309 kA309 [(58 : Int32), (47 : Int32)] x4_  h309 C311.old Z309 bx4 ) (fun _ => rfl) rfl E309 all0 (by decide) (by decide) (by decide) (by decide) (lenOf pd_28492949 rfl) rfl (nb rfl) rfl (Y29 33 rfl) (pc' := 64) rfl ?_
                      intro vm313 T313 h313 v313 C313 A313 M313 q313
                      obtain ⟨z313, rfl, e313, rfl⟩ := q313
                      rcases own_sepF e313 with ⟨nz314, hs314⟩ | ⟨rfl, n1_314, n2_314⟩
                      · refine C313.fY (pc' := 73) (Y29 34 rfl) (XT.i0_ge_t nz314) (by decide) rfl ?_
                        have KK315 := (kT (kT (kT (kT (kT (kR h []) K278 all0) K285 all0) K293 all0) K301 all0) K309 all0)
                        exact J73 z1 fm qm 4 l3 vm313 T313 h309 hfm hz hqm (by rw [own_se, ← hqm]; exact (own_scY hD4 ec4 hs314).symm) KK315 (CHr.trans (CHr.trans (CHr.trans (CHr.trans (CHr.trans (CHr.trans (CHr.trans (CHr.trans (CHr.trans (CHr.trans (CHr.trans (CHr.trans (CHr.trans (CHr.trans (CHr.trans A A278) A280) A282) A285) A287) A289) A293) A295) A297) A301) A303) A305) A309) A311) A313) (C313.more (k' := 12) (n' := 72) (by decide) (by decide))
                      · show Endw p e below T313 (mkF m 64 #[.val (.ref a), .val (.int z1), .val (.int (Int32.ofNat fm)), l3, .val (.int (Int32.ofNat qm)), .val (.int 4), .unset, .unset, .unset, .unset, .unset] [(.int (-1))]) _
                        refine C313.fN (Y29 34 rfl) (XT.i0_ge_f (by decide)) ?_
                        refine Endw.st (T' := T313) (g' := (mkF m 70 #[.val (.ref a), .val (.int z1), .val (.int (Int32.ofNat fm)), l3, .val (.int (Int32.ofNat qm)), .val (.int 5), .unset, .unset, .unset, .unset, .unset] [])) (fun _ k_ => XS.iinc C313.here C313.hx rfl (C313.dec (Y29 35 rfl)) rfl (l' := #[.val (.ref a), .val (.int z1), .val (.int (Int32.ofNat fm)), l3, .val (.int (Int32.ofNat qm)), .val (.int 5), .unset, .unset, .unset, .unset, .unset]) rfl k_) ?_
                        refine C313.go (pc' := 46) (Y29 36 rfl) (by decide) rfl ?_
                        have hD5 := own_scStep hD4 ec4 n1_314 n2_314
                        by_cases c316 : 5 < qm
                        · obtain ⟨x5_, r5_, ec5, -, eg5, -⟩ := (own_at (cs.take qm) (i := 5) (by rw [List.length_take]; omega)).resolve_left (fun q => absurd q.2 (by rw [List.length_take]; omega))
                          rw [own_takeD c316] at eg5
                          have bx5 : B8 x5_ := by rw [← eg5]; exact own_getAll (by omega) S.2.2.2.2.1
                          refine C313.iLk (Y29 26 rfl) rfl (C313.iLk (Y29 27 rfl) rfl (C313.cN (Y29 28 rfl) (XT.ii_ge_f ((own_lt (a := 5) (by omega) (by omega)).mpr c316)) ?_))
                          refine C313.ldcC (N := 8) (vs := (bys [(58 : Int32), (47 : Int32)])) (z := (2 : Int32)) (W88 hw) G.wS (by rw [G.el]; decide) ⟨by decide, by decide⟩ (by decide) (by decide) (by decide) (by decide) (by decide) (by decide) (Y29 29 rfl) (pc' := 55) rfl rfl ?_
                          intro vm317 T317 h317 a317 b317 kA317 C317 K317 A317 E317 F317 f317 V317 r317
                          have Z317 : Str Z h317 a317 b317 kA317 [(58 : Int32), (47 : Int32)] := ⟨E317, F317, f317, V317, (own_cS ⟨by decide, by decide⟩ (own_cS ⟨by decide, by decide⟩ own_c0)), by decide⟩
                          refine C317.aL (Y29 30 rfl) rfl rfl (C317.iLk (Y29 31 rfl) rfl ?_)
                          have f318 := (f310.keep K317 nin0 nin0)
                          have f320 := (f312.keep K317)
                          refine C317.virtual (W := 1) (W91 hw) (W92 hw) (fun _ q => notFace_of_selects (args := #[]) (mvT q (W94 hw))) (W94 hw) (W93 hw) (W95 hw) (W10 hw) (by decide) (rm_chr l Z a0 EL G a t kb cs 5 x5_ h317 C317.old f318 (by omega) eg5) (fun _ => rfl) rfl f320 all0 (by decide) (by decide) (by decide) (by decide) (lenOf pd_28492943 rfl) rfl (nb rfl) rfl (Y29 32 rfl) (pc' := 61) rfl ?_
                          intro vm319 T319 h319 v319 C319 A319 M319 q319
                          obtain ⟨rfl, rfl⟩ := q319
                          refine C319.virtual (W := 0) (W45 hw) (W46 hw) (fun _ q => notFace_of_selects (args := #[]) (mvT q (W48 hw))) (W48 hw) (W47 hw) (W49 hw) (W10 hw) (by decide) (rm_ix1 l Z a0 EL G a317 b317 kA317 [(58 : Int32), (47 : Int32)] x5_  h317 C319.old Z317 bx5 ) (fun _ => rfl) rfl E317 all0 (by decide) (by decide) (by decide) (by decide) (lenOf pd_28492949 rfl) rfl (nb rfl) rfl (Y29 33 rfl) (pc' := 64) rfl ?_
                          intro vm321 T321 h321 v321 C321 A321 M321 q321
                          obtain ⟨z321, rfl, e321, rfl⟩ := q321
                          rcases own_sepF e321 with ⟨nz322, hs322⟩ | ⟨rfl, n1_322, n2_322⟩
                          · refine C321.fY (pc' := 73) (Y29 34 rfl) (XT.i0_ge_t nz322) (by decide) rfl ?_
                            have KK323 := (kT (kT (kT (kT (kT (kT (kR h []) K278 all0) K285 all0) K293 all0) K301 all0) K309 all0) K317 all0)
                            exact J73 z1 fm qm 5 l3 vm321 T321 h317 hfm hz hqm (by rw [own_se, ← hqm]; exact (own_scY hD5 ec5 hs322).symm) KK323 (CHr.trans (CHr.trans (CHr.trans (CHr.trans (CHr.trans (CHr.trans (CHr.trans (CHr.trans (CHr.trans (CHr.trans (CHr.trans (CHr.trans (CHr.trans (CHr.trans (CHr.trans (CHr.trans (CHr.trans (CHr.trans A A278) A280) A282) A285) A287) A289) A293) A295) A297) A301) A303) A305) A309) A311) A313) A317) A319) A321) C321
                          · show Endw p e below T321 (mkF m 64 #[.val (.ref a), .val (.int z1), .val (.int (Int32.ofNat fm)), l3, .val (.int (Int32.ofNat qm)), .val (.int 5), .unset, .unset, .unset, .unset, .unset] [(.int (-1))]) _
                            refine C321.fN (Y29 34 rfl) (XT.i0_ge_f (by decide)) ?_
                            refine Endw.st (T' := T321) (g' := (mkF m 70 #[.val (.ref a), .val (.int z1), .val (.int (Int32.ofNat fm)), l3, .val (.int (Int32.ofNat qm)), .val (.int 6), .unset, .unset, .unset, .unset, .unset] [])) (fun _ k_ => XS.iinc C321.here C321.hx rfl (C321.dec (Y29 35 rfl)) rfl (l' := #[.val (.ref a), .val (.int z1), .val (.int (Int32.ofNat fm)), l3, .val (.int (Int32.ofNat qm)), .val (.int 6), .unset, .unset, .unset, .unset, .unset]) rfl k_) ?_
                            refine C321.go (pc' := 46) (Y29 36 rfl) (by decide) rfl ?_
                            have hD6 := own_scStep hD5 ec5 n1_322 n2_322
                            refine C321.iLk (Y29 26 rfl) rfl (C321.iLk (Y29 27 rfl) rfl (C321.cY (pc' := 73) (Y29 28 rfl) (XT.ii_ge_t (fun q => absurd ((own_lt (a := 6) (by omega) (by omega)).mp q) (by omega))) (by decide) rfl ?_))
                            have KK324 := (kT (kT (kT (kT (kT (kT (kR h []) K278 all0) K285 all0) K293 all0) K301 all0) K309 all0) K317 all0)
                            exact J73 z1 fm qm 6 l3 vm321 T321 h317 hfm hz hqm (by rw [own_se, ← hqm]; exact (own_scE hD6 (by rw [List.length_take]; omega)).symm) KK324 (CHr.trans (CHr.trans (CHr.trans (CHr.trans (CHr.trans (CHr.trans (CHr.trans (CHr.trans (CHr.trans (CHr.trans (CHr.trans (CHr.trans (CHr.trans (CHr.trans (CHr.trans (CHr.trans (CHr.trans (CHr.trans A A278) A280) A282) A285) A287) A289) A293) A295) A297) A301) A303) A305) A309) A311) A313) A317) A319) A321) C321
                        · refine C313.iLk (Y29 26 rfl) rfl (C313.iLk (Y29 27 rfl) rfl (C313.cY (pc' := 73) (Y29 28 rfl) (XT.ii_ge_t (fun q => absurd ((own_lt (a := 5) (by omega) (by omega)).mp q) c316)) (by decide) rfl ?_))
                          have KK325 := (kT (kT (kT (kT (kT (kR h []) K278 all0) K285 all0) K293 all0) K301 all0) K309 all0)
                          exact J73 z1 fm qm 5 l3 vm313 T313 h309 hfm hz hqm (by rw [own_se, ← hqm]; exact (own_scE hD5 (by rw [List.length_take]; omega)).symm) KK325 (CHr.trans (CHr.trans (CHr.trans (CHr.trans (CHr.trans (CHr.trans (CHr.trans (CHr.trans (CHr.trans (CHr.trans (CHr.trans (CHr.trans (CHr.trans (CHr.trans (CHr.trans A A278) A280) A282) A285) A287) A289) A293) A295) A297) A301) A303) A305) A309) A311) A313) (C313.more (k' := 12) (n' := 72) (by decide) (by decide))
                    · refine C305.iLk (Y29 26 rfl) rfl (C305.iLk (Y29 27 rfl) rfl (C305.cY (pc' := 73) (Y29 28 rfl) (XT.ii_ge_t (fun q => absurd ((own_lt (a := 4) (by omega) (by omega)).mp q) c308)) (by decide) rfl ?_))
                      have KK326 := (kT (kT (kT (kT (kR h []) K278 all0) K285 all0) K293 all0) K301 all0)
                      exact J73 z1 fm qm 4 l3 vm305 T305 h301 hfm hz hqm (by rw [own_se, ← hqm]; exact (own_scE hD4 (by rw [List.length_take]; omega)).symm) KK326 (CHr.trans (CHr.trans (CHr.trans (CHr.trans (CHr.trans (CHr.trans (CHr.trans (CHr.trans (CHr.trans (CHr.trans (CHr.trans (CHr.trans A A278) A280) A282) A285) A287) A289) A293) A295) A297) A301) A303) A305) (C305.more (k' := 12) (n' := 72) (by decide) (by decide))
                · refine C297.iLk (Y29 26 rfl) rfl (C297.iLk (Y29 27 rfl) rfl (C297.cY (pc' := 73) (Y29 28 rfl) (XT.ii_ge_t (fun q => absurd ((own_lt (a := 3) (by omega) (by omega)).mp q) c300)) (by decide) rfl ?_))
                  have KK327 := (kT (kT (kT (kR h []) K278 all0) K285 all0) K293 all0)
                  exact J73 z1 fm qm 3 l3 vm297 T297 h293 hfm hz hqm (by rw [own_se, ← hqm]; exact (own_scE hD3 (by rw [List.length_take]; omega)).symm) KK327 (CHr.trans (CHr.trans (CHr.trans (CHr.trans (CHr.trans (CHr.trans (CHr.trans (CHr.trans (CHr.trans A A278) A280) A282) A285) A287) A289) A293) A295) A297) (C297.more (k' := 12) (n' := 72) (by decide) (by decide))
            · refine C289.iLk (Y29 26 rfl) rfl (C289.iLk (Y29 27 rfl) rfl (C289.cY (pc' := 73) (Y29 28 rfl) (XT.ii_ge_t (fun q => absurd ((own_lt (a := 2) (by omega) (by omega)).mp q) c292)) (by decide) rfl ?_))
              have KK328 := (kT (kT (kR h []) K278 all0) K285 all0)
              exact J73 z1 fm qm 2 l3 vm289 T289 h285 hfm hz hqm (by rw [own_se, ← hqm]; exact (own_scE hD2 (by rw [List.length_take]; omega)).symm) KK328 (CHr.trans (CHr.trans (CHr.trans (CHr.trans (CHr.trans (CHr.trans A A278) A280) A282) A285) A287) A289) (C289.more (k' := 12) (n' := 72) (by decide) (by decide))
        · refine C282.iLk (Y29 26 rfl) rfl (C282.iLk (Y29 27 rfl) rfl (C282.cY (pc' := 73) (Y29 28 rfl) (XT.ii_ge_t (fun q => absurd ((own_lt (a := 1) (by omega) (by omega)).mp q) c284)) (by decide) rfl ?_))
          exact J73 z1 fm qm 1 l3 vm282 T282 h278 hfm hz hqm (by rw [own_se, ← hqm]; exact (own_scE hD1 (by rw [List.length_take]; omega)).symm) K278 (CHr.trans (CHr.trans (CHr.trans A A278) A280) A282) (C282.more (k' := 12) (n' := 72) (by decide) (by decide))
    · refine C.iLk (Y29 26 rfl) rfl (C.iLk (Y29 27 rfl) rfl (C.cY (pc' := 73) (Y29 28 rfl) (XT.ii_ge_t (fun q => absurd ((own_lt (a := 0) (by omega) (by omega)).mp q) c277)) (by decide) rfl ?_))
      exact J73 z1 fm qm 0 l3 vm T h hfm hz hqm (by rw [own_se, ← hqm]; exact (own_scE hD0 (by rw [List.length_take]; omega)).symm) (kR h []) A (C.more (k' := 12) (n' := 72) (by decide) (by decide))
  have J20 : ∀ (z1 : Int32) (fm : Nat) (vm : Vm) (T : State) , (fm = own_ix 35 cs) → ((fm < cs.length ∧ z1 = Int32.ofNat fm) ∨ (fm = cs.length ∧ z1 = -1)) → (CHr Z EL s.vm h vm h) → Core p l e ⟨6, 25, 149, 99⟩ s m #[(.ref a)] below meth c prog_4_method_2_code 11 (some (.object "com/example/quadrille/quadrille/rdf/BaseIri$Components")) "of" "com/example/quadrille/quadrille/rdf/BaseIri$Components" Z a0 EL false vm T h 0 0 → Endw p e below T (mkF m 20 #[.val (.ref a), .val (.int z1), .val (.int (Int32.ofNat fm)), .unset, .unset, .unset, .unset, .unset, .unset, .unset, .unset] []) (Fin s Z EL false (fun r h' => ∃ x : Addr, r = some (.ref x) ∧ Keep h h' [] ∧ h.size ≤ x ∧ Z.heap.size ≤ x ∧ Cmp Z h' x (own_sch cs) (own_aut cs) (own_pth cs) (own_qry cs) (own_frg cs)) (({ frames := 6, cells := 25, slots := 149, locals := 99 } : Room)).cells (({ frames := 6, cells := 25, slots := 149, locals := 99 } : Room)).slots) := by
    intro z1 fm vm T hfm hz A C
    refine C.aL (Y29 11 rfl) rfl rfl (C.bi (z := 63) (Y29 12 rfl) rfl ?_)
    refine C.virtual (W := 0) (W45 hw) (W46 hw) (fun _ q => notFace_of_selects (args := #[]) (mvT q (W48 hw))) (W48 hw) (W47 hw) (W49 hw) (W10 hw) (by decide) (rm_ix1 l Z a0 EL G a t kb cs (63 : Int32)  h C.old S ⟨by decide, by decide⟩ ) (fun _ => rfl) rfl S.1 all0 (by decide) (by decide) (by decide) (by decide) (lenOf pd_28492949 rfl) rfl (nb rfl) rfl (Y29 13 rfl) (pc' := 26) rfl ?_
    intro vm329 T329 h329 v329 C329 A329 M329 q329
    obtain ⟨z329, rfl, e329, rfl⟩ := q329
    rcases own_fnd0 e329 with ⟨lt330, rfl⟩ | ⟨ge330, rfl⟩
    · show Endw p e below T329 (mkF m 26 #[.val (.ref a), .val (.int z1), .val (.int (Int32.ofNat fm)), .unset, .unset, .unset, .unset, .unset, .unset, .unset, .unset] [(.int (Int32.ofNat (own_ix 63 cs)))]) _
      refine C329.iS (Y29 14 rfl) (l' := #[.val (.ref a), .val (.int z1), .val (.int (Int32.ofNat fm)), .val (.int (Int32.ofNat (own_ix 63 cs))), .unset, .unset, .unset, .unset, .unset, .unset, .unset]) rfl (C329.iL (Y29 15 rfl) rfl (C329.fN (Y29 16 rfl) (XT.i0_lt_f (own_nn (by omega))) (C329.iL (Y29 17 rfl) rfl (C329.iL (Y29 18 rfl) rfl ?_))))
      by_cases c331 : (Int32.ofNat (own_ix 63 cs)) < (Int32.ofNat fm)
      · refine C329.cN (Y29 19 rfl) (XT.ii_ge_f c331) (C329.iL (Y29 20 rfl) rfl (C329.go (pc' := 41) (Y29 21 rfl) (by decide) rfl (C329.iSk (Y29 23 rfl) (l' := #[.val (.ref a), .val (.int z1), .val (.int (Int32.ofNat fm)), .val (.int (Int32.ofNat (own_ix 63 cs))), .val (.int (Int32.ofNat (own_ix 63 cs))), .unset, .unset, .unset, .unset, .unset, .unset]) rfl ?_)))
        exact J43 z1 fm (own_ix 63 cs) (.val (.int (Int32.ofNat (own_ix 63 cs)))) vm329 T329  hfm hz (by rw [own_qm, if_pos (by rw [← hfm]; exact (own_lt (by omega) (by omega)).mp c331)]) (CHr.trans A A329) C329
      · refine C329.cY (pc' := 40) (Y29 19 rfl) (XT.ii_ge_t c331) (by decide) rfl (C329.iL (Y29 22 rfl) rfl (C329.iSk (Y29 23 rfl) (l' := #[.val (.ref a), .val (.int z1), .val (.int (Int32.ofNat fm)), .val (.int (Int32.ofNat (own_ix 63 cs))), .val (.int (Int32.ofNat fm)), .unset, .unset, .unset, .unset, .unset, .unset]) rfl ?_))
        exact J43 z1 fm fm (.val (.int (Int32.ofNat (own_ix 63 cs)))) vm329 T329  hfm hz (by rw [own_qm, if_neg (by rw [← hfm]; exact fun q => c331 ((own_lt (by omega) (by omega)).mpr q)), hfm]) (CHr.trans A A329) C329
    · show Endw p e below T329 (mkF m 26 #[.val (.ref a), .val (.int z1), .val (.int (Int32.ofNat fm)), .unset, .unset, .unset, .unset, .unset, .unset, .unset, .unset] [(.int (-1))]) _
      refine C329.iS (Y29 14 rfl) (l' := #[.val (.ref a), .val (.int z1), .val (.int (Int32.ofNat fm)), .val (.int (-1)), .unset, .unset, .unset, .unset, .unset, .unset, .unset]) rfl (C329.iL (Y29 15 rfl) rfl (C329.fY (pc' := 40) (Y29 16 rfl) (XT.i0_lt_t (by decide)) (by decide) rfl (C329.iL (Y29 22 rfl) rfl (C329.iSk (Y29 23 rfl) (l' := #[.val (.ref a), .val (.int z1), .val (.int (Int32.ofNat fm)), .val (.int (-1)), .val (.int (Int32.ofNat fm)), .unset, .unset, .unset, .unset, .unset, .unset]) rfl ?_))))
      exact J43 z1 fm fm (.val (.int (-1))) vm329 T329  hfm hz (by rw [own_qm, if_neg (by omega), hfm]) (CHr.trans A A329) C329
  refine C0.aL (Y29 0 rfl) rfl rfl (C0.bi (z := 35) (Y29 1 rfl) rfl ?_)
  refine C0.virtual (W := 0) (W45 hw) (W46 hw) (fun _ q => notFace_of_selects (args := #[]) (mvT q (W48 hw))) (W48 hw) (W47 hw) (W49 hw) (W10 hw) (by decide) (rm_ix1 l Z a0 EL G a t kb cs (35 : Int32)  h C0.old S ⟨by decide, by decide⟩ ) (fun _ => rfl) rfl S.1 all0 (by decide) (by decide) (by decide) (by decide) (lenOf pd_28492949 rfl) rfl (nb rfl) rfl (Y29 2 rfl) (pc' := 6) rfl ?_
  intro vm332 T332 h332 v332 C332 A332 M332 q332
  obtain ⟨z332, rfl, e332, rfl⟩ := q332
  rcases own_fnd0 e332 with ⟨lt333, rfl⟩ | ⟨ge333, rfl⟩
  · show Endw p e below T332 (mkF m 6 #[.val (.ref a), .unset, .unset, .unset, .unset, .unset, .unset, .unset, .unset, .unset, .unset] [(.int (Int32.ofNat (own_ix 35 cs)))]) _
    refine C332.iS (Y29 3 rfl) (l' := #[.val (.ref a), .val (.int (Int32.ofNat (own_ix 35 cs))), .unset, .unset, .unset, .unset, .unset, .unset, .unset, .unset, .unset]) rfl (C332.iL (Y29 4 rfl) rfl (C332.fY (pc' := 18) (Y29 5 rfl) (XT.i0_ge_t (own_nn (by omega))) (by decide) rfl (C332.iL (Y29 9 rfl) rfl (C332.iS (Y29 10 rfl) (l' := #[.val (.ref a), .val (.int (Int32.ofNat (own_ix 35 cs))), .val (.int (Int32.ofNat (own_ix 35 cs))), .unset, .unset, .unset, .unset, .unset, .unset, .unset, .unset]) rfl ?_))))
    exact J20 (Int32.ofNat (own_ix 35 cs)) (own_ix 35 cs) vm332 T332  rfl (Or.inl ⟨lt333, rfl⟩) A332 C332
  · show Endw p e below T332 (mkF m 6 #[.val (.ref a), .unset, .unset, .unset, .unset, .unset, .unset, .unset, .unset, .unset, .unset] [(.int (-1))]) _
    refine C332.iS (Y29 3 rfl) (l' := #[.val (.ref a), .val (.int (-1)), .unset, .unset, .unset, .unset, .unset, .unset, .unset, .unset, .unset]) rfl (C332.iL (Y29 4 rfl) rfl (C332.fN (Y29 5 rfl) (XT.i0_ge_f (by decide)) (C332.aL (Y29 6 rfl) rfl rfl ?_)))
    refine C332.virtual (W := 0) (wd hw 87 rfl) (W61 hw) (fun _ q => notFace_of_selects (args := #[]) (mvT q (W63 hw))) (W63 hw) (W62 hw) (W64 hw) (W10 hw) (by decide) (rm_strLen l Z a0 EL G a t kb cs h C332.old S) (fun _ => rfl) rfl S.1 all0 (by decide) (by decide) (by decide) (by decide) (lenOf pd_282949 rfl) rfl (nb rfl) rfl (Y29 7 rfl) (pc' := 15) rfl ?_
    intro vm334 T334 h334 v334 C334 A334 M334 q334
    obtain ⟨rfl, rfl⟩ := q334
    refine C334.go (pc' := 19) (Y29 8 rfl) (by decide) rfl (C334.iS (Y29 10 rfl) (l' := #[.val (.ref a), .val (.int (-1)), .val (.int (Int32.ofNat cs.length)), .unset, .unset, .unset, .unset, .unset, .unset, .unset, .unset]) rfl ?_)
    exact J20 (-1 : Int32) cs.length vm334 T334  ge333.symm (Or.inr ⟨rfl, rfl⟩) (CHr.trans A332 A334) C334
theorem rm_cofR0 (G : Glob Z a0 EL) (a t : Addr) (kb : ClassId) (h : Heap) (O : Ext Z.heap h) (S : Str Z h a t kb []) :
    Met l Z EL false ⟨"com/example/quadrille/quadrille/rdf/BaseIri$Components", "of", "(Ljava/lang/String;)Lcom/example/quadrille/quadrille/rdf/BaseIri$Components;"⟩ prog_4_method_2_code 11 (some (.object "com/example/quadrille/quadrille/rdf/BaseIri$Components")) [] ⟨4, 3, 17, 59⟩ #[(.ref a)] h [] (fun r h' => ∃ x : Addr, r = some (.ref x) ∧ Keep h h' [] ∧ h.size ≤ x ∧ Z.heap.size ≤ x ∧ Cmp Z h' x none none [] none none) := by
  have hw := G.hw
  obtain ⟨vo, So, hvo⟩ := G.fo
  refine Met.of (plainFor_of_name pn_6f6e656e7473_1) G.ew O ?_
  intro p e s m below meth c T0 C0 S0
  refine Endw.eq (g' := mkF m 0 #[.val (.ref a), .unset, .unset, .unset, .unset, .unset, .unset, .unset, .unset, .unset, .unset] []) rfl ?_
  refine C0.aL (Y29 0 rfl) rfl rfl (C0.bi (z := 35) (Y29 1 rfl) rfl ?_)
  refine C0.virtual (W := 0) (W45 hw) (W46 hw) (fun _ q => notFace_of_selects (args := #[]) (mvT q (W48 hw))) (W48 hw) (W47 hw) (W49 hw) (W10 hw) (by decide) (rm_ix1 l Z a0 EL G a t kb [] (35 : Int32)  h C0.old S ⟨by decide, by decide⟩ ) (fun _ => rfl) rfl S.1 all0 (by decide) (by decide) (by decide) (by decide) (lenOf pd_28492949 rfl) rfl (nb rfl) rfl (Y29 2 rfl) (pc' := 6) rfl ?_
  intro vm1 T1 h1 v1 C1 A1 M1 q1
  obtain ⟨z1, rfl, e1, rfl⟩ := q1
  obtain rfl : z1 = (-1) := (own_fndC e1).elim (fun q => absurd q.1 (by decide)) (fun q => q.2)
  show Endw p e below T1 (mkF m 6 #[.val (.ref a), .unset, .unset, .unset, .unset, .unset, .unset, .unset, .unset, .unset, .unset] [(.int (-1))]) _
  refine C1.iS (Y29 3 rfl) (l' := #[.val (.ref a), .val (.int (-1)), .unset, .unset, .unset, .unset, .unset, .unset, .unset, .unset, .unset]) rfl (C1.iL (Y29 4 rfl) rfl (C1.fN (Y29 5 rfl) (XT.i0_ge_f (by decide)) (C1.aL (Y29 6 rfl) rfl rfl ?_)))
  refine C1.virtual (W := 0) (wd hw 87 rfl) (W61 hw) (fun _ q => notFace_of_selects (args := #[]) (mvT q (W63 hw))) (W63 hw) (W62 hw) (W64 hw) (W10 hw) (by decide) (rm_strLen l Z a0 EL G a t kb [] h C1.old S) (fun _ => rfl) rfl S.1 all0 (by decide) (by decide) (by decide) (by decide) (lenOf pd_282949 rfl) rfl (nb rfl) rfl (Y29 7 rfl) (pc' := 15) rfl ?_
  intro vm2 T2 h2 v2 C2 A2 M2 q2
  obtain ⟨rfl, rfl⟩ := q2
  refine C2.go (pc' := 19) (Y29 8 rfl) (by decide) rfl (C2.iS (Y29 10 rfl) (l' := #[.val (.ref a), .val (.int (-1)), .val (.int 0), .unset, .unset, .unset, .unset, .unset, .unset, .unset, .unset]) rfl (C2.aL (Y29 11 rfl) rfl rfl (C2.bi (z := 63) (Y29 12 rfl) rfl ?_)))
  refine C2.virtual (W := 0) (W45 hw) (W46 hw) (fun _ q => notFace_of_selects (args := #[]) (mvT q (W48 hw))) (W48 hw) (W47 hw) (W49 hw) (W10 hw) (by decide) (rm_ix1 l Z a0 EL G a t kb [] (63 : Int32)  h C2.old S ⟨by decide, by decide⟩ ) (fun _ => rfl) rfl S.1 all0 (by decide) (by decide) (by decide) (by decide) (lenOf pd_28492949 rfl) rfl (nb rfl) rfl (Y29 13 rfl) (pc' := 26) rfl ?_
  intro vm3 T3 h3 v3 C3 A3 M3 q3
  obtain ⟨z3, rfl, e3, rfl⟩ := q3
  obtain rfl : z3 = (-1) := (own_fndC e3).elim (fun q => absurd q.1 (by decide)) (fun q => q.2)
  show Endw p e below T3 (mkF m 26 #[.val (.ref a), .val (.int (-1)), .val (.int 0), .unset, .unset, .unset, .unset, .unset, .unset, .unset, .unset] [(.int (-1))]) _
  refine C3.iS (Y29 14 rfl) (l' := #[.val (.ref a), .val (.int (-1)), .val (.int 0), .val (.int (-1)), .unset, .unset, .unset, .unset, .unset, .unset, .unset]) rfl (C3.iL (Y29 15 rfl) rfl (C3.fY (pc' := 40) (Y29 16 rfl) (XT.i0_lt_t (by decide)) (by decide) rfl (C3.iL (Y29 22 rfl) rfl (C3.iSk (Y29 23 rfl) (l' := #[.val (.ref a), .val (.int (-1)), .val (.int 0), .val (.int (-1)), .val (.int 0), .unset, .unset, .unset, .unset, .unset, .unset]) rfl (C3.ic (z := 0) (Y29 24 rfl) rfl (C3.iSk (Y29 25 rfl) (l' := #[.val (.ref a), .val (.int (-1)), .val (.int 0), .val (.int (-1)), .val (.int 0), .val (.int 0), .unset, .unset, .unset, .unset, .unset]) rfl (C3.iLk (Y29 26 rfl) rfl (C3.iLk (Y29 27 rfl) rfl (C3.cY (pc' := 73) (Y29 28 rfl) (XT.ii_ge_t (by decide)) (by decide) rfl ?_)))))))))
  refine C3.iLk (Y29 37 rfl) rfl (C3.fY (pc' := 100) (Y29 38 rfl) (XT.i0_le_t (by decide)) (by decide) rfl (C3.ic (z := 0) (Y29 49 rfl) rfl (C3.iSk (Y29 50 rfl) (l' := #[.val (.ref a), .val (.int (-1)), .val (.int 0), .val (.int (-1)), .val (.int 0), .val (.int 0), .val (.int 0), .unset, .unset, .unset, .unset]) rfl (C3.iLk (Y29 51 rfl) rfl (C3.fY (pc' := 115) (Y29 52 rfl) (XT.i0_eq_t (by decide)) (by decide) rfl (C3.ic (z := 0) (Y29 57 rfl) rfl (C3.iSk (Y29 58 rfl) (l' := #[.val (.ref a), .val (.int (-1)), .val (.int 0), .val (.int (-1)), .val (.int 0), .val (.int 0), .val (.int 0), .val (.int 0), .unset, .unset, .unset]) rfl (C3.aL (Y29 59 rfl) rfl rfl ?_))))))))
  refine C3.ldcC (N := 8) (vs := (bys [(47 : Int32), (47 : Int32)])) (z := (2 : Int32)) (W107 hw) G.wS (by rw [G.el]; decide) ⟨by decide, by decide⟩ (by decide) (by decide) (by decide) (by decide) (by decide) (by decide) (Y29 60 rfl) (pc' := 121) rfl rfl ?_
  intro vm4 T4 h4 a4 b4 kA4 C4 K4 A4 E4 F4 f4 V4 r4
  have Z4 : Str Z h4 a4 b4 kA4 [(47 : Int32), (47 : Int32)] := ⟨E4, F4, f4, V4, (own_cS ⟨by decide, by decide⟩ (own_cS ⟨by decide, by decide⟩ own_c0)), by decide⟩
  refine C4.iLk (Y29 61 rfl) rfl ?_
  have f5 := (S.keep K4 nin0 nin0)
  have f7 := (S.1.keep K4)
  refine C4.virtual (W := 0) (wd hw 108 rfl) (W109 hw) (fun _ q => notFace_of_selects (args := #[]) (mvT q (W111 hw))) (W111 hw) (W110 hw) (W112 hw) (W10 hw) (by decide) (rm_sw2 l Z a0 EL G a t kb [] a4 b4 kA4 [(47 : Int32), (47 : Int32)] 0 h4 C4.old f5 Z4 (Nat.zero_le _) (nb rfl)) (fun _ => rfl) rfl f7 all0 (by decide) (by decide) (by decide) (by decide) (lenOf pd_35 rfl) rfl (nb rfl) rfl (Y29 62 rfl) (pc' := 126) rfl ?_
  intro vm6 T6 h6 v6 C6 A6 M6 q6
  rw [show (own_sw [(47 : Int32), (47 : Int32)] ([].drop 0)) = (0 : Int32) from by decide] at q6
  obtain ⟨rfl, rfl⟩ := q6
  refine C6.fY (pc' := 177) (Y29 63 rfl) (XT.i0_eq_t (by decide)) (by decide) rfl (C6.iLk (Y29 88 rfl) rfl (C6.iSk (Y29 89 rfl) (l' := #[.val (.ref a), .val (.int (-1)), .val (.int 0), .val (.int (-1)), .val (.int 0), .val (.int 0), .val (.int 0), .val (.int 0), .unset, .val (.int 0), .unset]) rfl (C6.nu (Y29 90 rfl) (C6.aSk (Y29 91 rfl) rfl (l' := #[.val (.ref a), .val (.int (-1)), .val (.int 0), .val (.int (-1)), .val (.int 0), .val (.int 0), .val (.int 0), .val (.int 0), .val .null, .val (.int 0), .unset]) rfl ?_))))
  refine C6.new (W113 hw) (W114 hw) (W43 hw) (Y29 92 rfl) (pc' := 187) rfl (by decide) (by decide) ?_
  intro T8 h8 a8 C8 K8 A8 ge8 zg8 E8 D8 S8
  refine C8.du (Y29 93 rfl) rfl (C8.iLk (Y29 94 rfl) rfl (C8.fY (pc' := 203) (Y29 95 rfl) (XT.i0_eq_t (by decide)) (by decide) rfl (C8.nu (Y29 101 rfl) (C8.aLk (Y29 102 rfl) rfl rfl (C8.aL (Y29 103 rfl) rfl rfl (C8.iLk (Y29 104 rfl) rfl (C8.iLk (Y29 105 rfl) rfl ?_)))))))
  have f9 := (f5.keep K8 nin0 nin0)
  have f11 := (f7.keep K8)
  refine C8.virtual (W := 4) (W115 hw) (W116 hw) (fun _ q => notFace_of_selects (args := #[]) (mvT q (W118 hw))) (W118 hw) (W117 hw) (W119 hw) (W10 hw) (by decide) (rm_sub_all l Z a0 EL G a t kb [] 0 0 h8 C8.old f9 (by decide) (by decide) (by decide) ⟨rfl, rfl⟩) (fun _ => rfl) rfl f11 all0 (by decide) (by decide) (by decide) (by decide) (lenOf pd_16 rfl) rfl (nb rfl) rfl (Y29 106 rfl) (pc' := 214) rfl ?_
  intro vm10 T10 h10 v10 C10 A10 M10 q10
  obtain ⟨rfl, rfl⟩ := q10
  refine C10.iLk (Y29 107 rfl) rfl (C10.iL (Y29 108 rfl) rfl (C10.cY (pc' := 232) (Y29 109 rfl) (XT.ii_ge_t (by decide)) (by decide) rfl (C10.nu (Y29 117 rfl) (C10.iL (Y29 118 rfl) rfl (C10.fY (pc' := 247) (Y29 119 rfl) (XT.i0_lt_t (by decide)) (by decide) rfl (C10.nu (Y29 126 rfl) ?_))))))
  have f12 : Fld Z h8 a8 "com/example/quadrille/quadrille/rdf/BaseIri$Components" "scheme" "Ljava/lang/String;" .null := D8 (Or.inr (W153 hw)) (ty := (.object "java/lang/String")) (by decide)
  have f13 : Fld Z h8 a8 "com/example/quadrille/quadrille/rdf/BaseIri$Components" "authority" "Ljava/lang/String;" .null := D8 (Or.inr (W155 hw)) (ty := (.object "java/lang/String")) (by decide)
  have f14 : Fld Z h8 a8 "com/example/quadrille/quadrille/rdf/BaseIri$Components" "path" "Ljava/lang/String;" .null := D8 (Or.inr (W157 hw)) (ty := (.object "java/lang/String")) (by decide)
  have f15 : Fld Z h8 a8 "com/example/quadrille/quadrille/rdf/BaseIri$Components" "query" "Ljava/lang/String;" .null := D8 (Or.inr (W159 hw)) (ty := (.object "java/lang/String")) (by decide)
  have f16 : Fld Z h8 a8 "com/example/quadrille/quadrille/rdf/BaseIri$Components" "fragment" "Ljava/lang/String;" .null := D8 (Or.inr (W161 hw)) (ty := (.object "java/lang/String")) (by decide)
  refine C10.special (y := ⟨"com/example/quadrille/quadrille/rdf/BaseIri$Components", "<init>", "(Ljava/lang/String;Ljava/lang/String;Ljava/lang/String;Ljava/lang/String;Ljava/lang/String;)V"⟩) (W := 1) rfl (W148 hw) (W149 hw) (W150 hw) (W43 hw) (by decide) (rm_coInit l Z a0 EL G a8 .null rfl .null rfl (.ref a) rfl .null rfl .null rfl h8 C10.old E8 f12 f13 f14 f15 f16 zg8) (fun _ => rfl) rfl all0 (by decide) (by decide) (by decide) (by decide) (lenOf pd_38 rfl) rfl (nb rfl) rfl (Y29 127 rfl) (pc' := 251) rfl ?_
  intro vm17 T17 h17 v17 C17 A17 M17 q17
  obtain ⟨rfl, K17, E17, F17_0, F17_1, F17_2, F17_3, F17_4⟩ := q17
  have ne18 : a ≠ a8 := (nL (lL (lL S.1.lt K4.1) ge8))
  have ne19 : t ≠ a8 := (nL (lL (lL S.2.2.2.1.lt K4.1) ge8))
  have f20 := (f9.keep K17 (ninS ne18 nin0) (ninS ne19 nin0))
  have KK21 := (kT (kT (kT (kR h []) K4 all0) K8 all0) K17 (allS (Or.inr (lT K4.1 ge8)) all0))
  exact C17.retA (t := (.object "com/example/quadrille/quadrille/rdf/BaseIri$Components")) rfl rfl rfl rfl (Y29 128 rfl) (by decide) (by decide) ⟨a8, rfl, KK21, (lT K4.1 ge8), zg8, .null, .null, a, t, kb, .null, .null, E17, F17_0, F17_1, F17_2, F17_3, F17_4, OS.nil, OS.nil, f20, OS.nil, OS.nil⟩
theorem rm_cofR1 (G : Glob Z a0 EL) (a t : Addr) (kb : ClassId) (h : Heap) (O : Ext Z.heap h) (S : Str Z h a t kb [(63 : Int32)]) :
    Met l Z EL false ⟨"com/example/quadrille/quadrille/rdf/BaseIri$Components", "of", "(Ljava/lang/String;)Lcom/example/quadrille/quadrille/rdf/BaseIri$Components;"⟩ prog_4_method_2_code 11 (some (.object "com/example/quadrille/quadrille/rdf/BaseIri$Components")) [] ⟨4, 7, 25, 59⟩ #[(.ref a)] h [] (fun r h' => ∃ x : Addr, r = some (.ref x) ∧ Keep h h' [] ∧ h.size ≤ x ∧ Z.heap.size ≤ x ∧ Cmp Z h' x none none [] (some []) none) := by
  have hw := G.hw
  obtain ⟨vo, So, hvo⟩ := G.fo
  refine Met.of (plainFor_of_name pn_6f6e656e7473_1) G.ew O ?_
  intro p e s m below meth c T0 C0 S0
  refine Endw.eq (g' := mkF m 0 #[.val (.ref a), .unset, .unset, .unset, .unset, .unset, .unset, .unset, .unset, .unset, .unset] []) rfl ?_
  refine C0.aL (Y29 0 rfl) rfl rfl (C0.bi (z := 35) (Y29 1 rfl) rfl ?_)
  refine C0.virtual (W := 0) (W45 hw) (W46 hw) (fun _ q => notFace_of_selects (args := #[]) (mvT q (W48 hw))) (W48 hw) (W47 hw) (W49 hw) (W10 hw) (by decide) (rm_ix1 l Z a0 EL G a t kb [(63 : Int32)] (35 : Int32)  h C0.old S ⟨by decide, by decide⟩ ) (fun _ => rfl) rfl S.1 all0 (by decide) (by decide) (by decide) (by decide) (lenOf pd_28492949 rfl) rfl (nb rfl) rfl (Y29 2 rfl) (pc' := 6) rfl ?_
  intro vm1 T1 h1 v1 C1 A1 M1 q1
  obtain ⟨z1, rfl, e1, rfl⟩ := q1
  obtain rfl : z1 = (-1) := (own_fndC e1).elim (fun q => absurd q.1 (by decide)) (fun q => q.2)
  show Endw p e below T1 (mkF m 6 #[.val (.ref a), .unset, .unset, .unset, .unset, .unset, .unset, .unset, .unset, .unset, .unset] [(.int (-1))]) _
  refine C1.iS (Y29 3 rfl) (l' := #[.val (.ref a), .val (.int (-1)), .unset, .unset, .unset, .unset, .unset, .unset, .unset, .unset, .unset]) rfl (C1.iL (Y29 4 rfl) rfl (C1.fN (Y29 5 rfl) (XT.i0_ge_f (by decide)) (C1.aL (Y29 6 rfl) rfl rfl ?_)))
  refine C1.virtual (W := 0) (wd hw 87 rfl) (W61 hw) (fun _ q => notFace_of_selects (args := #[]) (mvT q (W63 hw))) (W63 hw) (W62 hw) (W64 hw) (W10 hw) (by decide) (rm_strLen l Z a0 EL G a t kb [(63 : Int32)] h C1.old S) (fun _ => rfl) rfl S.1 all0 (by decide) (by decide) (by decide) (by decide) (lenOf pd_282949 rfl) rfl (nb rfl) rfl (Y29 7 rfl) (pc' := 15) rfl ?_
  intro vm2 T2 h2 v2 C2 A2 M2 q2
  obtain ⟨rfl, rfl⟩ := q2
  refine C2.go (pc' := 19) (Y29 8 rfl) (by decide) rfl (C2.iS (Y29 10 rfl) (l' := #[.val (.ref a), .val (.int (-1)), .val (.int 1), .unset, .unset, .unset, .unset, .unset, .unset, .unset, .unset]) rfl (C2.aL (Y29 11 rfl) rfl rfl (C2.bi (z := 63) (Y29 12 rfl) rfl ?_)))
  refine C2.virtual (W := 0) (W45 hw) (W46 hw) (fun _ q => notFace_of_selects (args := #[]) (mvT q (W48 hw))) (W48 hw) (W47 hw) (W49 hw) (W10 hw) (by decide) (rm_ix1 l Z a0 EL G a t kb [(63 : Int32)] (63 : Int32)  h C2.old S ⟨by decide, by decide⟩ ) (fun _ => rfl) rfl S.1 all0 (by decide) (by decide) (by decide) (by decide) (lenOf pd_28492949 rfl) rfl (nb rfl) rfl (Y29 13 rfl) (pc' := 26) rfl ?_
  intro vm3 T3 h3 v3 C3 A3 M3 q3
  obtain ⟨z3, rfl, e3, rfl⟩ := q3
  obtain rfl : z3 = 0 := (own_fndC e3).elim (fun q => q.2.trans (by decide)) (fun q => absurd q.1 (by decide))
  show Endw p e below T3 (mkF m 26 #[.val (.ref a), .val (.int (-1)), .val (.int 1), .unset, .unset, .unset, .unset, .unset, .unset, .unset, .unset] [(.int 0)]) _
  refine C3.iS (Y29 14 rfl) (l' := #[.val (.ref a), .val (.int (-1)), .val (.int 1), .val (.int 0), .unset, .unset, .unset, .unset, .unset, .unset, .unset]) rfl (C3.iL (Y29 15 rfl) rfl (C3.fN (Y29 16 rfl) (XT.i0_lt_f (by decide)) (C3.iL (Y29 17 rfl) rfl (C3.iL (Y29 18 rfl) rfl (C3.cN (Y29 19 rfl) (XT.ii_ge_f (by decide)) (C3.iL (Y29 20 rfl) rfl (C3.go (pc' := 41) (Y29 21 rfl) (by decide) rfl (C3.iSk (Y29 23 rfl) (l' := #[.val (.ref a), .val (.int (-1)), .val (.int 1), .val (.int 0), .val (.int 0), .unset, .unset, .unset, .unset, .unset, .unset]) rfl (C3.ic (z := 0) (Y29 24 rfl) rfl ?_)))))))))
  refine C3.iSk (Y29 25 rfl) (l' := #[.val (.ref a), .val (.int (-1)), .val (.int 1), .val (.int 0), .val (.int 0), .val (.int 0), .unset, .unset, .unset, .unset, .unset]) rfl (C3.iLk (Y29 26 rfl) rfl (C3.iLk (Y29 27 rfl) rfl (C3.cY (pc' := 73) (Y29 28 rfl) (XT.ii_ge_t (by decide)) (by decide) rfl (C3.iLk (Y29 37 rfl) rfl (C3.fY (pc' := 100) (Y29 38 rfl) (XT.i0_le_t (by decide)) (by decide) rfl (C3.ic (z := 0) (Y29 49 rfl) rfl (C3.iSk (Y29 50 rfl) (l' := #[.val (.ref a), .val (.int (-1)), .val (.int 1), .val (.int 0), .val (.int 0), .val (.int 0), .val (.int 0), .unset, .unset, .unset, .unset]) rfl (C3.iLk (Y29 51 rfl) rfl (C3.fY (pc' := 115) (Y29 52 rfl) (XT.i0_eq_t (by decide)) (by decide) rfl ?_)))))))))
  refine C3.ic (z := 0) (Y29 57 rfl) rfl (C3.iSk (Y29 58 rfl) (l' := #[.val (.ref a), .val (.int (-1)), .val (.int 1), .val (.int 0), .val (.int 0), .val (.int 0), .val (.int 0), .val (.int 0), .unset, .unset, .unset]) rfl (C3.aL (Y29 59 rfl) rfl rfl ?_))
  refine C3.ldcC (N := 8) (vs := (bys [(47 : Int32), (47 : Int32)])) (z := (2 : Int32)) (W107 hw) G.wS (by rw [G.el]; decide) ⟨by decide, by decide⟩ (by decide) (by decide) (by decide) (by decide) (by decide) (by decide) (Y29 60 rfl) (pc' := 121) rfl rfl ?_
  intro vm4 T4 h4 a4 b4 kA4 C4 K4 A4 E4 F4 f4 V4 r4
  have Z4 : Str Z h4 a4 b4 kA4 [(47 : Int32), (47 : Int32)] := ⟨E4, F4, f4, V4, (own_cS ⟨by decide, by decide⟩ (own_cS ⟨by decide, by decide⟩ own_c0)), by decide⟩
  refine C4.iLk (Y29 61 rfl) rfl ?_
  have f5 := (S.keep K4 nin0 nin0)
  have f7 := (S.1.keep K4)
  refine C4.virtual (W := 0) (wd hw 108 rfl) (W109 hw) (fun _ q => notFace_of_selects (args := #[]) (mvT q (W111 hw))) (W111 hw) (W110 hw) (W112 hw) (W10 hw) (by decide) (rm_sw2 l Z a0 EL G a t kb [(63 : Int32)] a4 b4 kA4 [(47 : Int32), (47 : Int32)] 0 h4 C4.old f5 Z4 (Nat.zero_le _) (nb rfl)) (fun _ => rfl) rfl f7 all0 (by decide) (by decide) (by decide) (by decide) (lenOf pd_35 rfl) rfl (nb rfl) rfl (Y29 62 rfl) (pc' := 126) rfl ?_
  intro vm6 T6 h6 v6 C6 A6 M6 q6
  rw [show (own_sw [(47 : Int32), (47 : Int32)] ([(63 : Int32)].drop 0)) = (0 : Int32) from by decide] at q6
  obtain ⟨rfl, rfl⟩ := q6
  refine C6.fY (pc' := 177) (Y29 63 rfl) (XT.i0_eq_t (by decide)) (by decide) rfl (C6.iLk (Y29 88 rfl) rfl (C6.iSk (Y29 89 rfl) (l' := #[.val (.ref a), .val (.int (-1)), .val (.int 1), .val (.int 0), .val (.int 0), .val (.int 0), .val (.int 0), .val (.int 0), .unset, .val (.int 0), .unset]) rfl (C6.nu (Y29 90 rfl) (C6.aSk (Y29 91 rfl) rfl (l' := #[.val (.ref a), .val (.int (-1)), .val (.int 1), .val (.int 0), .val (.int 0), .val (.int 0), .val (.int 0), .val (.int 0), .val .null, .val (.int 0), .unset]) rfl ?_))))
  refine C6.new (W113 hw) (W114 hw) (W43 hw) (Y29 92 rfl) (pc' := 187) rfl (by decide) (by decide) ?_
  intro T8 h8 a8 C8 K8 A8 ge8 zg8 E8 D8 S8
  refine C8.du (Y29 93 rfl) rfl (C8.iLk (Y29 94 rfl) rfl (C8.fY (pc' := 203) (Y29 95 rfl) (XT.i0_eq_t (by decide)) (by decide) rfl (C8.nu (Y29 101 rfl) (C8.aLk (Y29 102 rfl) rfl rfl (C8.aL (Y29 103 rfl) rfl rfl (C8.iLk (Y29 104 rfl) rfl (C8.iLk (Y29 105 rfl) rfl ?_)))))))
  have f9 := (f5.keep K8 nin0 nin0)
  have f11 := (f7.keep K8)
  refine C8.virtual (W := 4) (W115 hw) (W116 hw) (fun _ q => notFace_of_selects (args := #[]) (mvT q (W118 hw))) (W118 hw) (W117 hw) (W119 hw) (W10 hw) (by decide) (rm_sub_nil l Z a0 EL G a t kb [(63 : Int32)] 0 0 h8 C8.old f9 (by decide) (by decide) (by decide) (by decide) rfl) (fun z => nomatch z) rfl f11 all0 (by decide) (by decide) (by decide) (by decide) (lenOf pd_16 rfl) rfl (nb rfl) rfl (Y29 106 rfl) (pc' := 214) rfl ?_
  intro vm10 T10 h10 v10 C10 A10 M10 q10
  obtain ⟨x10, d10, kd10, rfl, K10, Z10⟩ := q10
  replace Z10 : Str Z h10 x10 d10 kd10 [] := Z10
  refine C10.iLk (Y29 107 rfl) rfl (C10.iL (Y29 108 rfl) rfl (C10.cN (Y29 109 rfl) (XT.ii_ge_f (by decide)) (C10.aL (Y29 110 rfl) rfl rfl (C10.iLk (Y29 111 rfl) rfl (C10.ic (z := 1) (Y29 112 rfl) rfl (C10.ad (z := 1) (Y29 113 rfl) rfl (C10.iL (Y29 114 rfl) rfl ?_)))))))
  have f12 := (f9.keep K10 nin0 nin0)
  have f14 := (f11.keep K10)
  refine C10.virtual (W := 5) (W115 hw) (W116 hw) (fun _ q => notFace_of_selects (args := #[]) (mvT q (W118 hw))) (W118 hw) (W117 hw) (W119 hw) (W10 hw) (by decide) (rm_sub_nil l Z a0 EL G a t kb [(63 : Int32)] 1 1 h10 C10.old f12 (by decide) (by decide) (by decide) (by decide) rfl) (fun z => nomatch z) rfl f14 all0 (by decide) (by decide) (by decide) (by decide) (lenOf pd_16 rfl) rfl (nb rfl) rfl (Y29 115 rfl) (pc' := 229) rfl ?_
  intro vm13 T13 h13 v13 C13 A13 M13 q13
  obtain ⟨x13, d13, kd13, rfl, K13, Z13⟩ := q13
  replace Z13 : Str Z h13 x13 d13 kd13 [] := Z13
  refine C13.go (pc' := 233) (Y29 116 rfl) (by decide) rfl (C13.iL (Y29 118 rfl) rfl (C13.fY (pc' := 247) (Y29 119 rfl) (XT.i0_lt_t (by decide)) (by decide) rfl (C13.nu (Y29 126 rfl) ?_)))
  have f15 : Fld Z h8 a8 "com/example/quadrille/quadrille/rdf/BaseIri$Components" "scheme" "Ljava/lang/String;" .null := D8 (Or.inr (W153 hw)) (ty := (.object "java/lang/String")) (by decide)
  have KK16 := (kT (kT (kR h8 []) K10 all0) K13 all0)
  have f17 := (f15.keep KK16 nin0)
  have f18 : Fld Z h8 a8 "com/example/quadrille/quadrille/rdf/BaseIri$Components" "authority" "Ljava/lang/String;" .null := D8 (Or.inr (W155 hw)) (ty := (.object "java/lang/String")) (by decide)
  have f19 := (f18.keep KK16 nin0)
  have f20 : Fld Z h8 a8 "com/example/quadrille/quadrille/rdf/BaseIri$Components" "path" "Ljava/lang/String;" .null := D8 (Or.inr (W157 hw)) (ty := (.object "java/lang/String")) (by decide)
  have f21 := (f20.keep KK16 nin0)
  have f22 : Fld Z h8 a8 "com/example/quadrille/quadrille/rdf/BaseIri$Components" "query" "Ljava/lang/String;" .null := D8 (Or.inr (W159 hw)) (ty := (.object "java/lang/String")) (by decide)
  have f23 := (f22.keep KK16 nin0)
  have f24 : Fld Z h8 a8 "com/example/quadrille/quadrille/rdf/BaseIri$Components" "fragment" "Ljava/lang/String;" .null := D8 (Or.inr (W161 hw)) (ty := (.object "java/lang/String")) (by decide)
  have f25 := (f24.keep KK16 nin0)
  have f26 := (E8.keep KK16)
  refine C13.special (y := ⟨"com/example/quadrille/quadrille/rdf/BaseIri$Components", "<init>", "(Ljava/lang/String;Ljava/lang/String;Ljava/lang/String;Ljava/lang/String;Ljava/lang/String;)V"⟩) (W := 1) rfl (W148 hw) (W149 hw) (W150 hw) (W43 hw) (by decide) (rm_coInit l Z a0 EL G a8 .null rfl .null rfl (.ref x10) rfl (.ref x13) rfl .null rfl h13 C13.old f26 f17 f19 f21 f23 f25 zg8) (fun _ => rfl) rfl all0 (by decide) (by decide) (by decide) (by decide) (lenOf pd_38 rfl) rfl (nb rfl) rfl (Y29 127 rfl) (pc' := 251) rfl ?_
  intro vm27 T27 h27 v27 C27 A27 M27 q27
  obtain ⟨rfl, K27, E27, F27_0, F27_1, F27_2, F27_3, F27_4⟩ := q27
  have KK28 := (kT (kT (kR h10 [a8]) K13 all0) K27 (allS m0 all0))
  have ne29 : x10 ≠ a8 := (RoadKit.Exa.ne Z10.1 (E8.keep K10) (by decide))
  have ne30 : d10 ≠ a8 := (Ne.symm (RoadKit.Exa.neArv (E8.keep K10) Z10.2.2.2.1 (W114 hw)))
  have f31 := (Z10.keep KK28 (ninS ne29 nin0) (ninS ne30 nin0))
  have KK32 := (kT (kT (kT (kT (kT (kR h []) K4 all0) K8 all0) K10 all0) K13 all0) K27 (allS (Or.inr (lT K4.1 ge8)) all0))
  have ne33 : x13 ≠ a8 := (RoadKit.Exa.ne Z13.1 (E8.keep KK16) (by decide))
  have ne34 : d13 ≠ a8 := (Ne.symm (RoadKit.Exa.neArv (E8.keep KK16) Z13.2.2.2.1 (W114 hw)))
  have f35 := (Z13.keep K27 (ninS ne33 nin0) (ninS ne34 nin0))
  exact C27.retA (t := (.object "com/example/quadrille/quadrille/rdf/BaseIri$Components")) rfl rfl rfl rfl (Y29 128 rfl) (by decide) (by decide) ⟨a8, rfl, KK32, (lT K4.1 ge8), zg8, .null, .null, x10, d10, kd10, (.ref x13), .null, E27, F27_0, F27_1, F27_2, F27_3, F27_4, OS.nil, OS.nil, f31, (OS.mk f35), OS.nil⟩
theorem rm_cofR2 (G : Glob Z a0 EL) (a t : Addr) (kb : ClassId) (h : Heap) (O : Ext Z.heap h) (S : Str Z h a t kb [(47 : Int32), (121 : Int32)]) :
    Met l Z EL false ⟨"com/example/quadrille/quadrille/rdf/BaseIri$Components", "of", "(Ljava/lang/String;)Lcom/example/quadrille/quadrille/rdf/BaseIri$Components;"⟩ prog_4_method_2_code 11 (some (.object "com/example/quadrille/quadrille/rdf/BaseIri$Components")) [] ⟨4, 5, 29, 59⟩ #[(.ref a)] h [] (fun r h' => ∃ x : Addr, r = some (.ref x) ∧ Keep h h' [] ∧ h.size ≤ x ∧ Z.heap.size ≤ x ∧ Cmp Z h' x none none [(47 : Int32), (121 : Int32)] none none) := by
  have hw := G.hw
  obtain ⟨vo, So, hvo⟩ := G.fo
  refine Met.of (plainFor_of_name pn_6f6e656e7473_1) G.ew O ?_
  intro p e s m below meth c T0 C0 S0
  refine Endw.eq (g' := mkF m 0 #[.val (.ref a), .unset, .unset, .unset, .unset, .unset, .unset, .unset, .unset, .unset, .unset] []) rfl ?_
  refine C0.aL (Y29 0 rfl) rfl rfl (C0.bi (z := 35) (Y29 1 rfl) rfl ?_)
  refine C0.virtual (W := 0) (W45 hw) (W46 hw) (fun _ q => notFace_of_selects (args := #[]) (mvT q (W48 hw))) (W48 hw) (W47 hw) (W49 hw) (W10 hw) (by decide) (rm_ix1 l Z a0 EL G a t kb [(47 : Int32), (121 : Int32)] (35 : Int32)  h C0.old S ⟨by decide, by decide⟩ ) (fun _ => rfl) rfl S.1 all0 (by decide) (by decide) (by decide) (by decide) (lenOf pd_28492949 rfl) rfl (nb rfl) rfl (Y29 2 rfl) (pc' := 6) rfl ?_
  intro vm1 T1 h1 v1 C1 A1 M1 q1
  obtain ⟨z1, rfl, e1, rfl⟩ := q1
  obtain rfl : z1 = (-1) := (own_fndC e1).elim (fun q => absurd q.1 (by decide)) (fun q => q.2)
  show Endw p e below T1 (mkF m 6 #[.val (.ref a), .unset, .unset, .unset, .unset, .unset, .unset, .unset, .unset, .unset, .unset] [(.int (-1))]) _
  refine C1.iS (Y29 3 rfl) (l' := #[.val (.ref a), .val (.int (-1)), .unset, .unset, .unset, .unset, .unset, .unset, .unset, .unset, .unset]) rfl (C1.iL (Y29 4 rfl) rfl (C1.fN (Y29 5 rfl) (XT.i0_ge_f (by decide)) (C1.aL (Y29 6 rfl) rfl rfl ?_)))
  refine C1.virtual (W := 0) (wd hw 87 rfl) (W61 hw) (fun _ q => notFace_of_selects (args := #[]) (mvT q (W63 hw))) (W63 hw) (W62 hw) (W64 hw) (W10 hw) (by decide) (rm_strLen l Z a0 EL G a t kb [(47 : Int32), (121 : Int32)] h C1.old S) (fun _ => rfl) rfl S.1 all0 (by decide) (by decide) (by decide) (by decide) (lenOf pd_282949 rfl) rfl (nb rfl) rfl (Y29 7 rfl) (pc' := 15) rfl ?_
  intro vm2 T2 h2 v2 C2 A2 M2 q2
  obtain ⟨rfl, rfl⟩ := q2
  refine C2.go (pc' := 19) (Y29 8 rfl) (by decide) rfl (C2.iS (Y29 10 rfl) (l' := #[.val (.ref a), .val (.int (-1)), .val (.int 2), .unset, .unset, .unset, .unset, .unset, .unset, .unset, .unset]) rfl (C2.aL (Y29 11 rfl) rfl rfl (C2.bi (z := 63) (Y29 12 rfl) rfl ?_)))
  refine C2.virtual (W := 0) (W45 hw) (W46 hw) (fun _ q => notFace_of_selects (args := #[]) (mvT q (W48 hw))) (W48 hw) (W47 hw) (W49 hw) (W10 hw) (by decide) (rm_ix1 l Z a0 EL G a t kb [(47 : Int32), (121 : Int32)] (63 : Int32)  h C2.old S ⟨by decide, by decide⟩ ) (fun _ => rfl) rfl S.1 all0 (by decide) (by decide) (by decide) (by decide) (lenOf pd_28492949 rfl) rfl (nb rfl) rfl (Y29 13 rfl) (pc' := 26) rfl ?_
  intro vm3 T3 h3 v3 C3 A3 M3 q3
  obtain ⟨z3, rfl, e3, rfl⟩ := q3
  obtain rfl : z3 = (-1) := (own_fndC e3).elim (fun q => absurd q.1 (by decide)) (fun q => q.2)
  show Endw p e below T3 (mkF m 26 #[.val (.ref a), .val (.int (-1)), .val (.int 2), .unset, .unset, .unset, .unset, .unset, .unset, .unset, .unset] [(.int (-1))]) _
  refine C3.iS (Y29 14 rfl) (l' := #[.val (.ref a), .val (.int (-1)), .val (.int 2), .val (.int (-1)), .unset, .unset, .unset, .unset, .unset, .unset, .unset]) rfl (C3.iL (Y29 15 rfl) rfl (C3.fY (pc' := 40) (Y29 16 rfl) (XT.i0_lt_t (by decide)) (by decide) rfl (C3.iL (Y29 22 rfl) rfl (C3.iSk (Y29 23 rfl) (l' := #[.val (.ref a), .val (.int (-1)), .val (.int 2), .val (.int (-1)), .val (.int 2), .unset, .unset, .unset, .unset, .unset, .unset]) rfl (C3.ic (z := 0) (Y29 24 rfl) rfl (C3.iSk (Y29 25 rfl) (l' := #[.val (.ref a), .val (.int (-1)), .val (.int 2), .val (.int (-1)), .val (.int 2), .val (.int 0), .unset, .unset, .unset, .unset, .unset]) rfl (C3.iLk (Y29 26 rfl) rfl (C3.iLk (Y29 27 rfl) rfl (C3.cN (Y29 28 rfl) (XT.ii_ge_f (by decide)) ?_)))))))))
  refine C3.ldcC (N := 8) (vs := (bys [(58 : Int32), (47 : Int32)])) (z := (2 : Int32)) (W88 hw) G.wS (by rw [G.el]; decide) ⟨by decide, by decide⟩ (by decide) (by decide) (by decide) (by decide) (by decide) (by decide) (Y29 29 rfl) (pc' := 55) rfl rfl ?_
  intro vm4 T4 h4 a4 b4 kA4 C4 K4 A4 E4 F4 f4 V4 r4
  have Z4 : Str Z h4 a4 b4 kA4 [(58 : Int32), (47 : Int32)] := ⟨E4, F4, f4, V4, (own_cS ⟨by decide, by decide⟩ (own_cS ⟨by decide, by decide⟩ own_c0)), by decide⟩
  refine C4.aL (Y29 30 rfl) rfl rfl (C4.iLk (Y29 31 rfl) rfl ?_)
  have f5 := (S.keep K4 nin0 nin0)
  have f7 := (S.1.keep K4)
  refine C4.virtual (W := 1) (W91 hw) (W92 hw) (fun _ q => notFace_of_selects (args := #[]) (mvT q (W94 hw))) (W94 hw) (W93 hw) (W95 hw) (W10 hw) (by decide) (rm_chr l Z a0 EL G a t kb [(47 : Int32), (121 : Int32)] 0 (47 : Int32) h4 C4.old f5 (by decide) rfl) (fun _ => rfl) rfl f7 all0 (by decide) (by decide) (by decide) (by decide) (lenOf pd_28492943 rfl) rfl (nb rfl) rfl (Y29 32 rfl) (pc' := 61) rfl ?_
  intro vm6 T6 h6 v6 C6 A6 M6 q6
  obtain ⟨rfl, rfl⟩ := q6
  refine C6.virtual (W := 0) (W45 hw) (W46 hw) (fun _ q => notFace_of_selects (args := #[]) (mvT q (W48 hw))) (W48 hw) (W47 hw) (W49 hw) (W10 hw) (by decide) (rm_ix1 l Z a0 EL G a4 b4 kA4 [(58 : Int32), (47 : Int32)] (47 : Int32)  h4 C6.old Z4 ⟨by decide, by decide⟩ ) (fun _ => rfl) rfl E4 all0 (by decide) (by decide) (by decide) (by decide) (lenOf pd_28492949 rfl) rfl (nb rfl) rfl (Y29 33 rfl) (pc' := 64) rfl ?_
  intro vm8 T8 h8 v8 C8 A8 M8 q8
  obtain ⟨z8, rfl, e8, rfl⟩ := q8
  obtain rfl : z8 = 1 := (own_fndC e8).elim (fun q => q.2.trans (by decide)) (fun q => absurd q.1 (by decide))
  show Endw p e below T8 (mkF m 64 #[.val (.ref a), .val (.int (-1)), .val (.int 2), .val (.int (-1)), .val (.int 2), .val (.int 0), .unset, .unset, .unset, .unset, .unset] [(.int 1)]) _
  refine C8.fY (pc' := 73) (Y29 34 rfl) (XT.i0_ge_t (by decide)) (by decide) rfl (C8.iLk (Y29 37 rfl) rfl (C8.fY (pc' := 100) (Y29 38 rfl) (XT.i0_le_t (by decide)) (by decide) rfl (C8.ic (z := 0) (Y29 49 rfl) rfl (C8.iSk (Y29 50 rfl) (l' := #[.val (.ref a), .val (.int (-1)), .val (.int 2), .val (.int (-1)), .val (.int 2), .val (.int 0), .val (.int 0), .unset, .unset, .unset, .unset]) rfl (C8.iLk (Y29 51 rfl) rfl (C8.fY (pc' := 115) (Y29 52 rfl) (XT.i0_eq_t (by decide)) (by decide) rfl (C8.ic (z := 0) (Y29 57 rfl) rfl (C8.iSk (Y29 58 rfl) (l' := #[.val (.ref a), .val (.int (-1)), .val (.int 2), .val (.int (-1)), .val (.int 2), .val (.int 0), .val (.int 0), .val (.int 0), .unset, .unset, .unset]) rfl (C8.aL (Y29 59 rfl) rfl rfl ?_)))))))))
  refine C8.ldcC (N := 8) (vs := (bys [(47 : Int32), (47 : Int32)])) (z := (2 : Int32)) (W107 hw) G.wS (by rw [G.el]; decide) ⟨by decide, by decide⟩ (by decide) (by decide) (by decide) (by decide) (by decide) (by decide) (Y29 60 rfl) (pc' := 121) rfl rfl ?_
  intro vm9 T9 h9 a9 b9 kA9 C9 K9 A9 E9 F9 f9 V9 r9
  have Z9 : Str Z h9 a9 b9 kA9 [(47 : Int32), (47 : Int32)] := ⟨E9, F9, f9, V9, (own_cS ⟨by decide, by decide⟩ (own_cS ⟨by decide, by decide⟩ own_c0)), by decide⟩
  refine C9.iLk (Y29 61 rfl) rfl ?_
  have f10 := (f5.keep K9 nin0 nin0)
  have f12 := (f7.keep K9)
  refine C9.virtual (W := 0) (wd hw 108 rfl) (W109 hw) (fun _ q => notFace_of_selects (args := #[]) (mvT q (W111 hw))) (W111 hw) (W110 hw) (W112 hw) (W10 hw) (by decide) (rm_sw2 l Z a0 EL G a t kb [(47 : Int32), (121 : Int32)] a9 b9 kA9 [(47 : Int32), (47 : Int32)] 0 h9 C9.old f10 Z9 (Nat.zero_le _) (nb rfl)) (fun _ => rfl) rfl f12 all0 (by decide) (by decide) (by decide) (by decide) (lenOf pd_35 rfl) rfl (nb rfl) rfl (Y29 62 rfl) (pc' := 126) rfl ?_
  intro vm11 T11 h11 v11 C11 A11 M11 q11
  rw [show (own_sw [(47 : Int32), (47 : Int32)] ([(47 : Int32), (121 : Int32)].drop 0)) = (0 : Int32) from by decide] at q11
  obtain ⟨rfl, rfl⟩ := q11
  refine C11.fY (pc' := 177) (Y29 63 rfl) (XT.i0_eq_t (by decide)) (by decide) rfl (C11.iLk (Y29 88 rfl) rfl (C11.iSk (Y29 89 rfl) (l' := #[.val (.ref a), .val (.int (-1)), .val (.int 2), .val (.int (-1)), .val (.int 2), .val (.int 0), .val (.int 0), .val (.int 0), .unset, .val (.int 0), .unset]) rfl (C11.nu (Y29 90 rfl) (C11.aSk (Y29 91 rfl) rfl (l' := #[.val (.ref a), .val (.int (-1)), .val (.int 2), .val (.int (-1)), .val (.int 2), .val (.int 0), .val (.int 0), .val (.int 0), .val .null, .val (.int 0), .unset]) rfl ?_))))
  refine C11.new (W113 hw) (W114 hw) (W43 hw) (Y29 92 rfl) (pc' := 187) rfl (by decide) (by decide) ?_
  intro T13 h13 a13 C13 K13 A13 ge13 zg13 E13 D13 S13
  refine C13.du (Y29 93 rfl) rfl (C13.iLk (Y29 94 rfl) rfl (C13.fY (pc' := 203) (Y29 95 rfl) (XT.i0_eq_t (by decide)) (by decide) rfl (C13.nu (Y29 101 rfl) (C13.aLk (Y29 102 rfl) rfl rfl (C13.aL (Y29 103 rfl) rfl rfl (C13.iLk (Y29 104 rfl) rfl (C13.iLk (Y29 105 rfl) rfl ?_)))))))
  have f14 := (f10.keep K13 nin0 nin0)
  have f16 := (f12.keep K13)
  refine C13.virtual (W := 4) (W115 hw) (W116 hw) (fun _ q => notFace_of_selects (args := #[]) (mvT q (W118 hw))) (W118 hw) (W117 hw) (W119 hw) (W10 hw) (by decide) (rm_sub_all l Z a0 EL G a t kb [(47 : Int32), (121 : Int32)] 0 2 h13 C13.old f14 (by decide) (by decide) (by decide) ⟨rfl, rfl⟩) (fun _ => rfl) rfl f16 all0 (by decide) (by decide) (by decide) (by decide) (lenOf pd_16 rfl) rfl (nb rfl) rfl (Y29 106 rfl) (pc' := 214) rfl ?_
  intro vm15 T15 h15 v15 C15 A15 M15 q15
  obtain ⟨rfl, rfl⟩ := q15
  refine C15.iLk (Y29 107 rfl) rfl (C15.iL (Y29 108 rfl) rfl (C15.cY (pc' := 232) (Y29 109 rfl) (XT.ii_ge_t (by decide)) (by decide) rfl (C15.nu (Y29 117 rfl) (C15.iL (Y29 118 rfl) rfl (C15.fY (pc' := 247) (Y29 119 rfl) (XT.i0_lt_t (by decide)) (by decide) rfl (C15.nu (Y29 126 rfl) ?_))))))
  have f17 : Fld Z h13 a13 "com/example/quadrille/quadrille/rdf/BaseIri$Components" "scheme" "Ljava/lang/String;" .null := D13 (Or.inr (W153 hw)) (ty := (.object "java/lang/String")) (by decide)
  have f18 : Fld Z h13 a13 "com/example/quadrille/quadrille/rdf/BaseIri$Components" "authority" "Ljava/lang/String;" .null := D13 (Or.inr (W155 hw)) (ty := (.object "java/lang/String")) (by decide)
  have f19 : Fld Z h13 a13 "com/example/quadrille/quadrille/rdf/BaseIri$Components" "path" "Ljava/lang/String;" .null := D13 (Or.inr (W157 hw)) (ty := (.object "java/lang/String")) (by decide)
  have f20 : Fld Z h13 a13 "com/example/quadrille/quadrille/rdf/BaseIri$Components" "query" "Ljava/lang/String;" .null := D13 (Or.inr (W159 hw)) (ty := (.object "java/lang/String")) (by decide)
  have f21 : Fld Z h13 a13 "com/example/quadrille/quadrille/rdf/BaseIri$Components" "fragment" "Ljava/lang/String;" .null := D13 (Or.inr (W161 hw)) (ty := (.object "java/lang/String")) (by decide)
  refine C15.special (y := ⟨"com/example/quadrille/quadrille/rdf/BaseIri$Components", "<init>", "(Ljava/lang/String;Ljava/lang/String;Ljava/lang/String;Ljava/lang/String;Ljava/lang/String;)V"⟩) (W := 1) rfl (W148 hw) (W149 hw) (W150 hw) (W43 hw) (by decide) (rm_coInit l Z a0 EL G a13 .null rfl .null rfl (.ref a) rfl .null rfl .null rfl h13 C15.old E13 f17 f18 f19 f20 f21 zg13) (fun _ => rfl) rfl all0 (by decide) (by decide) (by decide) (by decide) (lenOf pd_38 rfl) rfl (nb rfl) rfl (Y29 127 rfl) (pc' := 251) rfl ?_
  intro vm22 T22 h22 v22 C22 A22 M22 q22
  obtain ⟨rfl, K22, E22, F22_0, F22_1, F22_2, F22_3, F22_4⟩ := q22
  have ne23 : a ≠ a13 := (nL (lL (lL S.1.lt (lT K4.1 K9.1)) ge13))
  have ne24 : t ≠ a13 := (nL (lL (lL S.2.2.2.1.lt (lT K4.1 K9.1)) ge13))
  have f25 := (f14.keep K22 (ninS ne23 nin0) (ninS ne24 nin0))
  have KK26 := (kT (kT (kT (kT (kR h []) K4 all0) K9 all0) K13 all0) K22 (allS (Or.inr (lT (lT K4.1 K9.1) ge13)) all0))
  exact C22.retA (t := (.object "com/example/quadrille/quadrille/rdf/BaseIri$Components")) rfl rfl rfl rfl (Y29 128 rfl) (by decide) (by decide) ⟨a13, rfl, KK26, (lT (lT K4.1 K9.1) ge13), zg13, .null, .null, a, t, kb, .null, .null, E22, F22_0, F22_1, F22_2, F22_3, F22_4, OS.nil, OS.nil, f25, OS.nil, OS.nil⟩
theorem rm_cofR3 (G : Glob Z a0 EL) (a t : Addr) (kb : ClassId) (h : Heap) (O : Ext Z.heap h) (S : Str Z h a t kb [(47 : Int32), (47 : Int32), (120 : Int32)]) :
    Met l Z EL false ⟨"com/example/quadrille/quadrille/rdf/BaseIri$Components", "of", "(Ljava/lang/String;)Lcom/example/quadrille/quadrille/rdf/BaseIri$Components;"⟩ prog_4_method_2_code 11 (some (.object "com/example/quadrille/quadrille/rdf/BaseIri$Components")) [] ⟨5, 9, 45, 80⟩ #[(.ref a)] h [] (fun r h' => ∃ x : Addr, r = some (.ref x) ∧ Keep h h' [] ∧ h.size ≤ x ∧ Z.heap.size ≤ x ∧ Cmp Z h' x none (some [(120 : Int32)]) [] none none) := by
  have hw := G.hw
  obtain ⟨vo, So, hvo⟩ := G.fo
  refine Met.of (plainFor_of_name pn_6f6e656e7473_1) G.ew O ?_
  intro p e s m below meth c T0 C0 S0
  refine Endw.eq (g' := mkF m 0 #[.val (.ref a), .unset, .unset, .unset, .unset, .unset, .unset, .unset, .unset, .unset, .unset] []) rfl ?_
  refine C0.aL (Y29 0 rfl) rfl rfl (C0.bi (z := 35) (Y29 1 rfl) rfl ?_)
  refine C0.virtual (W := 0) (W45 hw) (W46 hw) (fun _ q => notFace_of_selects (args := #[]) (mvT q (W48 hw))) (W48 hw) (W47 hw) (W49 hw) (W10 hw) (by decide) (rm_ix1 l Z a0 EL G a t kb [(47 : Int32), (47 : Int32), (120 : Int32)] (35 : Int32)  h C0.old S ⟨by decide, by decide⟩ ) (fun _ => rfl) rfl S.1 all0 (by decide) (by decide) (by decide) (by decide) (lenOf pd_28492949 rfl) rfl (nb rfl) rfl (Y29 2 rfl) (pc' := 6) rfl ?_
  intro vm1 T1 h1 v1 C1 A1 M1 q1
  obtain ⟨z1, rfl, e1, rfl⟩ := q1
  obtain rfl : z1 = (-1) := (own_fndC e1).elim (fun q => absurd q.1 (by decide)) (fun q => q.2)
  show Endw p e below T1 (mkF m 6 #[.val (.ref a), .unset, .unset, .unset, .unset, .unset, .unset, .unset, .unset, .unset, .unset] [(.int (-1))]) _
  refine C1.iS (Y29 3 rfl) (l' := #[.val (.ref a), .val (.int (-1)), .unset, .unset, .unset, .unset, .unset, .unset, .unset, .unset, .unset]) rfl (C1.iL (Y29 4 rfl) rfl (C1.fN (Y29 5 rfl) (XT.i0_ge_f (by decide)) (C1.aL (Y29 6 rfl) rfl rfl ?_)))
  refine C1.virtual (W := 0) (wd hw 87 rfl) (W61 hw) (fun _ q => notFace_of_selects (args := #[]) (mvT q (W63 hw))) (W63 hw) (W62 hw) (W64 hw) (W10 hw) (by decide) (rm_strLen l Z a0 EL G a t kb [(47 : Int32), (47 : Int32), (120 : Int32)] h C1.old S) (fun _ => rfl) rfl S.1 all0 (by decide) (by decide) (by decide) (by decide) (lenOf pd_282949 rfl) rfl (nb rfl) rfl (Y29 7 rfl) (pc' := 15) rfl ?_
  intro vm2 T2 h2 v2 C2 A2 M2 q2
  obtain ⟨rfl, rfl⟩ := q2
  refine C2.go (pc' := 19) (Y29 8 rfl) (by decide) rfl (C2.iS (Y29 10 rfl) (l' := #[.val (.ref a), .val (.int (-1)), .val (.int 3), .unset, .unset, .unset, .unset, .unset, .unset, .unset, .unset]) rfl (C2.aL (Y29 11 rfl) rfl rfl (C2.bi (z := 63) (Y29 12 rfl) rfl ?_)))
  refine C2.virtual (W := 0) (W45 hw) (W46 hw) (fun _ q => notFace_of_selects (args := #[]) (mvT q (W48 hw))) (W48 hw) (W47 hw) (W49 hw) (W10 hw) (by decide) (rm_ix1 l Z a0 EL G a t kb [(47 : Int32), (47 : Int32), (120 : Int32)] (63 : Int32)  h C2.old S ⟨by decide, by decide⟩ ) (fun _ => rfl) rfl S.1 all0 (by decide) (by decide) (by decide) (by decide) (lenOf pd_28492949 rfl) rfl (nb rfl) rfl (Y29 13 rfl) (pc' := 26) rfl ?_
  intro vm3 T3 h3 v3 C3 A3 M3 q3
  obtain ⟨z3, rfl, e3, rfl⟩ := q3
  obtain rfl : z3 = (-1) := (own_fndC e3).elim (fun q => absurd q.1 (by decide)) (fun q => q.2)
  show Endw p e below T3 (mkF m 26 #[.val (.ref a), .val (.int (-1)), .val (.int 3), .unset, .unset, .unset, .unset, .unset, .unset, .unset, .unset] [(.int (-1))]) _
  refine C3.iS (Y29 14 rfl) (l' := #[.val (.ref a), .val (.int (-1)), .val (.int 3), .val (.int (-1)), .unset, .unset, .unset, .unset, .unset, .unset, .unset]) rfl (C3.iL (Y29 15 rfl) rfl (C3.fY (pc' := 40) (Y29 16 rfl) (XT.i0_lt_t (by decide)) (by decide) rfl (C3.iL (Y29 22 rfl) rfl (C3.iSk (Y29 23 rfl) (l' := #[.val (.ref a), .val (.int (-1)), .val (.int 3), .val (.int (-1)), .val (.int 3), .unset, .unset, .unset, .unset, .unset, .unset]) rfl (C3.ic (z := 0) (Y29 24 rfl) rfl (C3.iSk (Y29 25 rfl) (l' := #[.val (.ref a), .val (.int (-1)), .val (.int 3), .val (.int (-1)), .val (.int 3), .val (.int 0), .unset, .unset, .unset, .unset, .unset]) rfl (C3.iLk (Y29 26 rfl) rfl (C3.iLk (Y29 27 rfl) rfl (C3.cN (Y29 28 rfl) (XT.ii_ge_f (by decide)) ?_)))))))))
  refine C3.ldcC (N := 8) (vs := (bys [(58 : Int32), (47 : Int32)])) (z := (2 : Int32)) (W88 hw) G.wS (by rw [G.el]; decide) ⟨by decide, by decide⟩ (by decide) (by decide) (by decide) (by decide) (by decide) (by decide) (Y29 29 rfl) (pc' := 55) rfl rfl ?_
  intro vm4 T4 h4 a4 b4 kA4 C4 K4 A4 E4 F4 f4 V4 r4
  have Z4 : Str Z h4 a4 b4 kA4 [(58 : Int32), (47 : Int32)] := ⟨E4, F4, f4, V4, (own_cS ⟨by decide, by decide⟩ (own_cS ⟨by decide, by decide⟩ own_c0)), by decide⟩
  refine C4.aL (Y29 30 rfl) rfl rfl (C4.iLk (Y29 31 rfl) rfl ?_)
  have f5 := (S.keep K4 nin0 nin0)
  have f7 := (S.1.keep K4)
  refine C4.virtual (W := 1) (W91 hw) (W92 hw) (fun _ q => notFace_of_selects (args := #[]) (mvT q (W94 hw))) (W94 hw) (W93 hw) (W95 hw) (W10 hw) (by decide) (rm_chr l Z a0 EL G a t kb [(47 : Int32), (47 : Int32), (120 : Int32)] 0 (47 : Int32) h4 C4.old f5 (by decide) rfl) (fun _ => rfl) rfl f7 all0 (by decide) (by decide) (by decide) (by decide) (lenOf pd_28492943 rfl) rfl (nb rfl) rfl (Y29 32 rfl) (pc' := 61) rfl ?_
  intro vm6 T6 h6 v6 C6 A6 M6 q6
  obtain ⟨rfl, rfl⟩ := q6
  refine C6.virtual (W := 0) (W45 hw) (W46 hw) (fun _ q => notFace_of_selects (args := #[]) (mvT q (W48 hw))) (W48 hw) (W47 hw) (W49 hw) (W10 hw) (by decide) (rm_ix1 l Z a0 EL G a4 b4 kA4 [(58 : Int32), (47 : Int32)] (47 : Int32)  h4 C6.old Z4 ⟨by decide, by decide⟩ ) (fun _ => rfl) rfl E4 all0 (by decide) (by decide) (by decide) (by decide) (lenOf pd_28492949 rfl) rfl (nb rfl) rfl (Y29 33 rfl) (pc' := 64) rfl ?_
  intro vm8 T8 h8 v8 C8 A8 M8 q8
  obtain ⟨z8, rfl, e8, rfl⟩ := q8
  obtain rfl : z8 = 1 := (own_fndC e8).elim (fun q => q.2.trans (by decide)) (fun q => absurd q.1 (by decide))
  show Endw p e below T8 (mkF m 64 #[.val (.ref a), .val (.int (-1)), .val (.int 3), .val (.int (-1)), .val (.int 3), .val (.int 0), .unset, .unset, .unset, .unset, .unset] [(.int 1)]) _
  refine C8.fY (pc' := 73) (Y29 34 rfl) (XT.i0_ge_t (by decide)) (by decide) rfl (C8.iLk (Y29 37 rfl) rfl (C8.fY (pc' := 100) (Y29 38 rfl) (XT.i0_le_t (by decide)) (by decide) rfl (C8.ic (z := 0) (Y29 49 rfl) rfl (C8.iSk (Y29 50 rfl) (l' := #[.val (.ref a), .val (.int (-1)), .val (.int 3), .val (.int (-1)), .val (.int 3), .val (.int 0), .val (.int 0), .unset, .unset, .unset, .unset]) rfl (C8.iLk (Y29 51 rfl) rfl (C8.fY (pc' := 115) (Y29 52 rfl) (XT.i0_eq_t (by decide)) (by decide) rfl (C8.ic (z := 0) (Y29 57 rfl) rfl (C8.iSk (Y29 58 rfl) (l' := #[.val (.ref a), .val (.int (-1)), .val (.int 3), .val (.int (-1)), .val (.int 3), .val (.int 0), .val (.int 0), .val (.int 0), .unset, .unset, .unset]) rfl (C8.aL (Y29 59 rfl) rfl rfl ?_)))))))))
  refine C8.ldcC (N := 8) (vs := (bys [(47 : Int32), (47 : Int32)])) (z := (2 : Int32)) (W107 hw) G.wS (by rw [G.el]; decide) ⟨by decide, by decide⟩ (by decide) (by decide) (by decide) (by decide) (by decide) (by decide) (Y29 60 rfl) (pc' := 121) rfl rfl ?_
  intro vm9 T9 h9 a9 b9 kA9 C9 K9 A9 E9 F9 f9 V9 r9
  have Z9 : Str Z h9 a9 b9 kA9 [(47 : Int32), (47 : Int32)] := ⟨E9, F9, f9, V9, (own_cS ⟨by decide, by decide⟩ (own_cS ⟨by decide, by decide⟩ own_c0)), by decide⟩
  refine C9.iLk (Y29 61 rfl) rfl ?_
  have f10 := (f5.keep K9 nin0 nin0)
  have f12 := (f7.keep K9)
  refine C9.virtual (W := 0) (wd hw 108 rfl) (W109 hw) (fun _ q => notFace_of_selects (args := #[]) (mvT q (W111 hw))) (W111 hw) (W110 hw) (W112 hw) (W10 hw) (by decide) (rm_sw2 l Z a0 EL G a t kb [(47 : Int32), (47 : Int32), (120 : Int32)] a9 b9 kA9 [(47 : Int32), (47 : Int32)] 0 h9 C9.old f10 Z9 (Nat.zero_le _) (nb rfl)) (fun _ => rfl) rfl f12 all0 (by decide) (by decide) (by decide) (by decide) (lenOf pd_35 rfl) rfl (nb rfl) rfl (Y29 62 rfl) (pc' := 126) rfl ?_
  intro vm11 T11 h11 v11 C11 A11 M11 q11
  rw [show (own_sw [(47 : Int32), (47 : Int32)] ([(47 : Int32), (47 : Int32), (120 : Int32)].drop 0)) = (1 : Int32) from by decide] at q11
  obtain ⟨rfl, rfl⟩ := q11
  refine C11.fN (Y29 63 rfl) (XT.i0_eq_f (by decide)) (C11.aL (Y29 64 rfl) rfl rfl (C11.bi (z := 47) (Y29 65 rfl) rfl (C11.iLk (Y29 66 rfl) rfl (C11.ic (z := 2) (Y29 67 rfl) rfl (C11.ad (z := 2) (Y29 68 rfl) rfl ?_)))))
  refine C11.virtual (W := 0) (wd hw 372 rfl) (wd hw 51 rfl) (fun _ q => notFace_of_selects (args := #[]) (mvT q (W53 hw))) (W53 hw) (wd hw 52 rfl) (wd hw 54 rfl) (W10 hw) (by decide) (rm_ix2 l Z a0 EL G a t kb [(47 : Int32), (47 : Int32), (120 : Int32)] (47 : Int32) 2 h9 C11.old f10 ⟨by decide, by decide⟩ (by decide)) (fun _ => rfl) rfl f12 all0 (by decide) (by decide) (by decide) (by decide) (lenOf pd_2849492949 rfl) rfl (nb rfl) rfl (Y29 69 rfl) (pc' := 139) rfl ?_
  intro vm13 T13 h13 v13 C13 A13 M13 q13
  obtain ⟨z13, rfl, e13, rfl⟩ := q13
  obtain rfl : z13 = (-1) := (own_fndC e13).elim (fun q => absurd q.1 (by decide)) (fun q => q.2)
  show Endw p e below T13 (mkF m 139 #[.val (.ref a), .val (.int (-1)), .val (.int 3), .val (.int (-1)), .val (.int 3), .val (.int 0), .val (.int 0), .val (.int 0), .unset, .unset, .unset] [(.int (-1))]) _
  refine C13.iSk (Y29 70 rfl) (l' := #[.val (.ref a), .val (.int (-1)), .val (.int 3), .val (.int (-1)), .val (.int 3), .val (.int 0), .val (.int 0), .val (.int 0), .unset, .unset, .val (.int (-1))]) rfl (C13.iLk (Y29 71 rfl) rfl (C13.fY (pc' := 158) (Y29 72 rfl) (XT.i0_lt_t (by decide)) (by decide) rfl (C13.iLk (Y29 78 rfl) rfl (C13.iSk (Y29 79 rfl) (l' := #[.val (.ref a), .val (.int (-1)), .val (.int 3), .val (.int (-1)), .val (.int 3), .val (.int 0), .val (.int 0), .val (.int 0), .unset, .val (.int 3), .val (.int (-1))]) rfl (C13.aL (Y29 80 rfl) rfl rfl (C13.iLk (Y29 81 rfl) rfl (C13.ic (z := 2) (Y29 82 rfl) rfl (C13.ad (z := 2) (Y29 83 rfl) rfl (C13.iLk (Y29 84 rfl) rfl ?_)))))))))
  refine C13.virtual (W := 0) (W115 hw) (W116 hw) (fun _ q => notFace_of_selects (args := #[]) (mvT q (W118 hw))) (W118 hw) (W117 hw) (W119 hw) (W10 hw) (by decide) (rm_sub_mid l Z a0 EL G a t kb [(47 : Int32), (47 : Int32), (120 : Int32)] 2 3 h9 C13.old f10 (by decide) (by decide) (by decide) (by decide) (by decide)) (fun _ => rfl) rfl f12 all0 (by decide) (by decide) (by decide) (by decide) (lenOf pd_16 rfl) rfl (nb rfl) rfl (Y29 85 rfl) (pc' := 172) rfl ?_
  intro vm14 T14 h14 v14 C14 A14 M14 q14
  obtain ⟨x14, d14, kd14, rfl, K14, Z14⟩ := q14
  replace Z14 : Str Z h14 x14 d14 kd14 [(120 : Int32)] := Z14
  refine C14.aSk (Y29 86 rfl) rfl (l' := #[.val (.ref a), .val (.int (-1)), .val (.int 3), .val (.int (-1)), .val (.int 3), .val (.int 0), .val (.int 0), .val (.int 0), .val (.ref x14), .val (.int 3), .val (.int (-1))]) rfl (C14.go (pc' := 184) (Y29 87 rfl) (by decide) rfl ?_)
  refine C14.new (W113 hw) (W114 hw) (W43 hw) (Y29 92 rfl) (pc' := 187) rfl (by decide) (by decide) ?_
  intro T15 h15 a15 C15 K15 A15 ge15 zg15 E15 D15 S15
  refine C15.du (Y29 93 rfl) rfl (C15.iLk (Y29 94 rfl) rfl (C15.fY (pc' := 203) (Y29 95 rfl) (XT.i0_eq_t (by decide)) (by decide) rfl (C15.nu (Y29 101 rfl) (C15.aLk (Y29 102 rfl) rfl rfl (C15.aL (Y29 103 rfl) rfl rfl (C15.iLk (Y29 104 rfl) rfl (C15.iLk (Y29 105 rfl) rfl ?_)))))))
  have KK16 := (kT (kT (kR h9 []) K14 all0) K15 all0)
  have f17 := (f10.keep KK16 nin0 nin0)
  have f19 := (f12.keep KK16)
  refine C15.virtual (W := 4) (W115 hw) (W116 hw) (fun _ q => notFace_of_selects (args := #[]) (mvT q (W118 hw))) (W118 hw) (W117 hw) (W119 hw) (W10 hw) (by decide) (rm_sub_nil l Z a0 EL G a t kb [(47 : Int32), (47 : Int32), (120 : Int32)] 3 3 h15 C15.old f17 (by decide) (by decide) (by decide) (by decide) rfl) (fun z => nomatch z) rfl f19 all0 (by decide) (by decide) (by decide) (by decide) (lenOf pd_16 rfl) rfl (nb rfl) rfl (Y29 106 rfl) (pc' := 214) rfl ?_
  intro vm18 T18 h18 v18 C18 A18 M18 q18
  obtain ⟨x18, d18, kd18, rfl, K18, Z18⟩ := q18
  replace Z18 : Str Z h18 x18 d18 kd18 [] := Z18
  refine C18.iLk (Y29 107 rfl) rfl (C18.iL (Y29 108 rfl) rfl (C18.cY (pc' := 232) (Y29 109 rfl) (XT.ii_ge_t (by decide)) (by decide) rfl (C18.nu (Y29 117 rfl) (C18.iL (Y29 118 rfl) rfl (C18.fY (pc' := 247) (Y29 119 rfl) (XT.i0_lt_t (by decide)) (by decide) rfl (C18.nu (Y29 126 rfl) ?_))))))
  have f20 : Fld Z h15 a15 "com/example/quadrille/quadrille/rdf/BaseIri$Components" "scheme" "Ljava/lang/String;" .null := D15 (Or.inr (W153 hw)) (ty := (.object "java/lang/String")) (by decide)
  have f21 := (f20.keep K18 nin0)
  have f22 : Fld Z h15 a15 "com/example/quadrille/quadrille/rdf/BaseIri$Components" "authority" "Ljava/lang/String;" .null := D15 (Or.inr (W155 hw)) (ty := (.object "java/lang/String")) (by decide)
  have f23 := (f22.keep K18 nin0)
  have f24 : Fld Z h15 a15 "com/example/quadrille/quadrille/rdf/BaseIri$Components" "path" "Ljava/lang/String;" .null := D15 (Or.inr (W157 hw)) (ty := (.object "java/lang/String")) (by decide)
  have f25 := (f24.keep K18 nin0)
  have f26 : Fld Z h15 a15 "com/example/quadrille/quadrille/rdf/BaseIri$Components" "query" "Ljava/lang/String;" .null := D15 (Or.inr (W159 hw)) (ty := (.object "java/lang/String")) (by decide)
  have f27 := (f26.keep K18 nin0)
  have f28 : Fld Z h15 a15 "com/example/quadrille/quadrille/rdf/BaseIri$Components" "fragment" "Ljava/lang/String;" .null := D15 (Or.inr (W161 hw)) (ty := (.object "java/lang/String")) (by decide)
  have f29 := (f28.keep K18 nin0)
  have f30 := (E15.keep K18)
  refine C18.special (y := ⟨"com/example/quadrille/quadrille/rdf/BaseIri$Components", "<init>", "(Ljava/lang/String;Ljava/lang/String;Ljava/lang/String;Ljava/lang/String;Ljava/lang/String;)V"⟩) (W := 1) rfl (W148 hw) (W149 hw) (W150 hw) (W43 hw) (by decide) (rm_coInit l Z a0 EL G a15 .null rfl (.ref x14) rfl (.ref x18) rfl .null rfl .null rfl h18 C18.old f30 f21 f23 f25 f27 f29 zg15) (fun _ => rfl) rfl all0 (by decide) (by decide) (by decide) (by decide) (lenOf pd_38 rfl) rfl (nb rfl) rfl (Y29 127 rfl) (pc' := 251) rfl ?_
  intro vm31 T31 h31 v31 C31 A31 M31 q31
  obtain ⟨rfl, K31, E31, F31_0, F31_1, F31_2, F31_3, F31_4⟩ := q31
  have ne32 : x18 ≠ a15 := (RoadKit.Exa.ne Z18.1 (E15.keep K18) (by decide))
  have ne33 : d18 ≠ a15 := (Ne.symm (RoadKit.Exa.neArv (E15.keep K18) Z18.2.2.2.1 (W114 hw)))
  have f34 := (Z18.keep K31 (ninS ne32 nin0) (ninS ne33 nin0))
  have KK35 := (kT (kT (kT (kT (kT (kT (kR h []) K4 all0) K9 all0) K14 all0) K15 all0) K18 all0) K31 (allS (Or.inr (lT (lT K4.1 (lT K9.1 K14.1)) ge15)) all0))
  have KK36 := (kT (kT (kT (kR h14 []) K15 all0) K18 all0) K31 (allS (Or.inr ge15) all0))
  have f37 := (Z14.keep KK36 nin0 nin0)
  exact C31.retA (t := (.object "com/example/quadrille/quadrille/rdf/BaseIri$Components")) rfl rfl rfl rfl (Y29 128 rfl) (by decide) (by decide) ⟨a15, rfl, KK35, (lT (lT K4.1 (lT K9.1 K14.1)) ge15), zg15, .null, (.ref x14), x18, d18, kd18, .null, .null, E31, F31_0, F31_1, F31_2, F31_3, F31_4, OS.nil, (OS.mk f37), f34, OS.nil, OS.nil⟩
theorem rm_bof (G : Glob Z a0 EL) (a t : Addr) (kb : ClassId) (cs : List Int32) (h : Heap) (O : Ext Z.heap h) (S : Str Z h a t kb cs) (h6 : cs.length ≤ 6) (hB : own_hsB cs) :
    Met l Z EL false ⟨"com/example/quadrille/quadrille/rdf/BaseIri", "of", "(Ljava/lang/String;)Lcom/example/quadrille/quadrille/rdf/BaseIri;"⟩ prog_3_method_2_code 2 (some (.object "com/example/quadrille/quadrille/rdf/BaseIri")) [] ⟨7, 26, 151, 121⟩ #[(.ref a)] h [] (fun r h' => ∃ x b : Addr, r = some (.ref x) ∧ Keep h h' [] ∧ h.size ≤ x ∧ Exa Z h' x "com/example/quadrille/quadrille/rdf/BaseIri" ∧ Fld Z h' x "com/example/quadrille/quadrille/rdf/BaseIri" "base" "Lcom/example/quadrille/quadrille/rdf/BaseIri$Components;" (.ref b) ∧ Cmp Z h' b (some (own_sl cs 0 (own_se cs))) (own_aut cs) (own_pth cs) (own_qry cs) (own_frg cs)) := by
  have hw := G.hw
  obtain ⟨vo, So, hvo⟩ := G.fo
  refine Met.of (plainFor_of_name pn_617365497269_0) G.ew O ?_
  intro p e s m below meth c T0 C0 S0
  refine Endw.eq (g' := mkF m 0 #[.val (.ref a), .unset] []) rfl ?_
  refine C0.aL (Y30 0 rfl) rfl rfl ?_
  refine C0.static (W := 0) (wd hw 41 rfl) (wd hw 42 rfl) (wd hw 44 rfl) (W43 hw) (by decide) (rm_cof l Z a0 EL G a t kb cs h C0.old S h6) (fun z => nomatch z) rfl all0 (by decide) (by decide) (by decide) (by decide) (lenOf pd_28 rfl) rfl (nb rfl) rfl (Y30 1 rfl) (pc' := 4) rfl ?_
  intro vm1 T1 h1 v1 C1 A1 M1 q1
  obtain ⟨x1, rfl, K1, ge1, zg1, M1_⟩ := q1
  rw [show own_sch cs = some (own_sl cs 0 (own_se cs)) from if_pos hB] at M1_
  obtain ⟨u0_2, u1_2, s2_2, t2_2, k2_2, u3_2, u4_2, E_2, F0_2, F1_2, F2_2, F3_2, F4_2, O0_2, O1_2, S2_2, O3_2, O4_2⟩ := id M1_
  obtain ⟨s0_2, t0_2, k0_2, rfl, S0_2⟩ := OS.isSome O0_2
  refine C1.aS (Y30 2 rfl) rfl (l' := #[.val (.ref a), .val (.ref x1)]) rfl (C1.aL (Y30 3 rfl) rfl rfl ?_)
  refine C1.getFR (W162 hw) F0_2 (Y30 4 rfl) (pc' := 9) rfl ?_
  refine Endw.st (T' := T1) (g' := (mkF m 26 #[.val (.ref a), .val (.ref x1)] [])) (fun _ k_ => XS.ifnonnullYes C1.here C1.hx rfl (pc0 := 9) rfl (C1.dec (Y30 5 rfl)) rfl (by decide) rfl k_) ?_
  refine C1.new (wd hw 163 rfl) (wd hw 164 rfl) (W39 hw) (Y30 6 rfl) (pc' := 29) rfl (by decide) (by decide) ?_
  intro T4 h4 a4 C4 K4 A4 ge4 zg4 E4 D4 S4
  refine C4.du (Y30 7 rfl) rfl (C4.aL (Y30 8 rfl) rfl rfl (C4.aL (Y30 9 rfl) rfl rfl ?_))
  have f5 : Fld Z h4 a4 "com/example/quadrille/quadrille/rdf/BaseIri" "iri" "Ljava/lang/String;" .null := D4 (Or.inr (wd hw 170 rfl)) (ty := (.object "java/lang/String")) (by decide)
  have f6 : Fld Z h4 a4 "com/example/quadrille/quadrille/rdf/BaseIri" "base" "Lcom/example/quadrille/quadrille/rdf/BaseIri$Components;" .null := D4 (Or.inr (wd hw 172 rfl)) (ty := (.object "com/example/quadrille/quadrille/rdf/BaseIri$Components")) (by decide)
  refine C4.special (y := ⟨"com/example/quadrille/quadrille/rdf/BaseIri", "<init>", "(Ljava/lang/String;Lcom/example/quadrille/quadrille/rdf/BaseIri$Components;)V"⟩) (W := 1) rfl (wd hw 165 rfl) (wd hw 166 rfl) (wd hw 167 rfl) (W39 hw) (by decide) (rm_biInit l Z a0 EL G a4 (.ref a) rfl (.ref x1) rfl h4 C4.old E4 f5 f6 zg4) (fun _ => rfl) rfl all0 (by decide) (by decide) (by decide) (by decide) (lenOf pd_37 rfl) rfl (nb rfl) rfl (Y30 10 rfl) (pc' := 35) rfl ?_
  intro vm7 T7 h7 v7 C7 A7 M7 q7
  obtain ⟨rfl, K7, E7, F7_0, F7_1⟩ := q7
  have KK8 := (kT (kT (kT (kR h []) K1 all0) K4 all0) K7 (allS (Or.inr (lT K1.1 ge4)) all0))
  have f9 := (M1_.keep (kT (kT (kR h1 []) K4 all0) K7 (allS (Or.inr ge4) all0)))
  exact C7.retA (t := (.object "com/example/quadrille/quadrille/rdf/BaseIri")) rfl rfl rfl rfl (Y30 11 rfl) (by decide) (by decide) ⟨a4, x1, rfl, KK8, (lT K1.1 ge4), E7, F7_1, f9⟩
theorem rm_inflIf (G : Glob Z a0 EL) (b a : Addr) (h : Heap) (O : Ext Z.heap h) (E0 : Exa Z h a "java/lang/String") (F0 : Fld Z h b "java/lang/AbstractStringBuilder" "coder" "B" (.int 0)) (F1 : Fld Z h a "java/lang/String" "coder" "B" (.int 0)) :
    Met l Z EL true ⟨"java/lang/AbstractStringBuilder", "inflateIfNeededFor", "(Ljava/lang/String;)V"⟩ jdk_68_method_71_code 2 none [] ⟨1, 0, 0, 13⟩ #[(.ref b), (.ref a)] h [] (fun r h' => r = none ∧ h = h') := by
  have hw := G.hw
  obtain ⟨zc, Sc, hzc⟩ := G.cs
  obtain ⟨vo, So, hvo⟩ := G.fo
  refine Met.of (plainFor_of_name pn_75696c646572_3) G.ew O ?_
  intro p e s m below meth c T0 C0 S0
  refine Endw.eq (g' := mkF m 0 #[.val (.ref b), .val (.ref a)] []) rfl ?_
  refine C0.getS (wd hw 219 rfl) Sc (Y31 0 rfl) (pc' := 3) rfl ?_
  intro T1 C1
  refine C1.fN (Y31 1 rfl) (XT.i0_eq_f hzc) (C1.aL (Y31 2 rfl) rfl rfl ?_)
  refine C1.getF (W222 hw) F0 (Y31 3 rfl) (pc' := 10) rfl ?_
  intro T2 C2
  refine C2.aL (Y31 4 rfl) rfl rfl ?_
  refine C2.virtual (W := 1) (wd hw 252 rfl) (wd hw 66 rfl) (fun _ q => notFace_of_selects (args := #[]) (mvT q (W68 hw))) (W68 hw) (wd hw 67 rfl) (wd hw 69 rfl) (W10 hw) (by decide) (rm_coder l Z a0 EL G a h C2.old F1) (fun _ => rfl) rfl E0 all0 (by decide) (by decide) (by decide) (by decide) (lenOf pd_282942 rfl) rfl (nb rfl) rfl (Y31 5 rfl) (pc' := 14) rfl ?_
  intro vm3 T3 h3 v3 C3 A3 M3 q3
  obtain ⟨rfl, rfl⟩ := q3
  refine C3.cY (pc' := 21) (Y31 6 rfl) (XT.ii_eq_t (by decide)) (by decide) rfl ?_
  exact C3.retV (Y31 7 rfl) (by decide) (by decide) ⟨rfl, rfl⟩
theorem rm_getBytes (G : Glob Z a0 EL) (a t : Addr) (kb : ClassId) (cs : List Int32) (d : Addr) (kd : ClassId) (ps : List Int32) (cap : Nat) (h : Heap) (O : Ext Z.heap h) (S : Str Z h a t kb cs) (V : Arv Z h d kd .byte (Int32.ofNat cap) (bys ps) (.int 0)) (hle : ps.length + cs.length ≤ cap) (hcap : cap ≤ 4000) (zd : Z.heap.size ≤ d) :
    Met l Z EL true ⟨"java/lang/String", "getBytes", "([BIB)V"⟩ jdk_42_method_147_code 4 none [] ⟨1, 0, 0, 18⟩ #[(.ref a), (.ref d), (.int (Int32.ofNat ps.length)), (.int 0)] h [d] (fun r h' => r = none ∧ Keep h h' [d] ∧ Arv Z h' d kd .byte (Int32.ofNat cap) (bys (ps ++ cs)) (.int 0)) := by
  have hw := G.hw
  obtain ⟨vo, So, hvo⟩ := G.fo
  refine Met.of (plainFor_of_name pn_537472696e67_6) G.ew O ?_
  intro p e s m below meth c T0 C0 S0
  refine Endw.eq (g' := mkF m 0 #[.val (.ref a), .val (.ref d), .val (.int (Int32.ofNat ps.length)), .val (.int 0)] []) rfl ?_
  refine C0.aL (Y32 0 rfl) rfl rfl ?_
  refine C0.virtual (W := 0) (wd hw 65 rfl) (wd hw 66 rfl) (fun _ q => notFace_of_selects (args := #[]) (mvT q (W68 hw))) (W68 hw) (wd hw 67 rfl) (wd hw 69 rfl) (W10 hw) (by decide) (rm_coder l Z a0 EL G a h C0.old S.2.1) (fun _ => rfl) rfl S.1 all0 (by decide) (by decide) (by decide) (by decide) (lenOf pd_282942 rfl) rfl (nb rfl) rfl (Y32 1 rfl) (pc' := 4) rfl ?_
  intro vm1 T1 h1 v1 C1 A1 M1 q1
  obtain ⟨rfl, rfl⟩ := q1
  refine C1.iL (Y32 2 rfl) rfl (C1.cN (Y32 3 rfl) (XT.ii_ne_f (by decide)) (C1.aL (Y32 4 rfl) rfl rfl ?_))
  refine C1.getF (W35 hw) S.2.2.1 (Y32 5 rfl) (pc' := 12) rfl ?_
  intro T2 C2
  refine C2.ic (z := 0) (Y32 6 rfl) rfl (C2.aL (Y32 7 rfl) rfl rfl (C2.iL (Y32 8 rfl) rfl (C2.iL (Y32 9 rfl) rfl ?_)))
  refine Endw.st (T' := T2) (g' := (mkF m 17 #[.val (.ref a), .val (.ref d), .val (.int (Int32.ofNat ps.length)), .val (.int 0)] [(.int ((Int32.ofNat ps.length) <<< ((0 : Int32) &&& 31))), (.ref d), (.int 0), (.ref t)])) (fun _ k_ => XS.ishl C2.here C2.hx rfl (C2.dec (Y32 10 rfl)) rfl k_) ?_
  rw [own_shl0]
  refine C2.aL (Y32 11 rfl) rfl rfl ?_
  refine C2.getF (W35 hw) S.2.2.1 (Y32 12 rfl) (pc' := 21) rfl ?_
  intro T3 C3
  refine C3.len S.2.2.2.1 (Y32 13 rfl) (pc' := 22) rfl ?_
  have f5 := (A1.safe V.lt (S0 d (by simp)))
  refine C3.acopyCat (cs := ps) (ds := cs) (cap := cap) (W := 0) (wd hw 258 rfl) (wd hw 144 rfl) (wd hw 142 rfl) (wd hw 143 rfl) S.2.2.2.1 V hle hcap zd f5 rfl (Y32 14 rfl) (pc' := 25) rfl (by decide) (nb rfl) (by decide) ?_
  intro T4 h4 C4 K4 A4 V4
  refine C4.go (pc' := 43) (Y32 15 rfl) (by decide) rfl ?_
  exact C4.retV (Y32 16 rfl) (by decide) (by decide) ⟨rfl, K4, V4⟩
theorem rm_putStr (G : Glob Z a0 EL) (b tb : Addr) (kb : ClassId) (ps : List Int32) (cap : Nat) (a t : Addr) (kc : ClassId) (cs : List Int32) (h : Heap) (O : Ext Z.heap h) (B : Sb Z h b tb kb ps cap) (S : Str Z h a t kc cs) (hle : ps.length + cs.length ≤ cap) (zt : Z.heap.size ≤ tb) :
    Met l Z EL true ⟨"java/lang/AbstractStringBuilder", "putStringAt", "(ILjava/lang/String;)V"⟩ jdk_68_method_73_code 3 none [] ⟨2, 0, 0, 33⟩ #[(.ref b), (.int (Int32.ofNat ps.length)), (.ref a)] h [tb] (fun r h' => r = none ∧ Keep h h' [tb] ∧ Arv Z h' tb kb .byte (Int32.ofNat cap) (bys (ps ++ cs)) (.int 0)) := by
  have hw := G.hw
  obtain ⟨vo, So, hvo⟩ := G.fo
  refine Met.of (plainFor_of_name pn_75696c646572_3) G.ew O ?_
  intro p e s m below meth c T0 C0 S0
  refine Endw.eq (g' := mkF m 0 #[.val (.ref b), .val (.int (Int32.ofNat ps.length)), .val (.ref a)] []) rfl ?_
  refine C0.aL (Y33 0 rfl) rfl rfl (C0.aL (Y33 1 rfl) rfl rfl ?_)
  refine C0.priv (W := 0) (wd hw 247 rfl) (wd hw 248 rfl) (own_plain (y := ⟨"java/lang/AbstractStringBuilder", "ensureCapacityInternal", "(I)V"⟩) (W240 hw) (W238 hw)) (wd hw 249 rfl) (wd hw 251 rfl) (W216 hw) (by decide) (rm_inflIf l Z a0 EL G b a h C0.old S.1 B.2.1.1 S.2.1) (fun _ => rfl) rfl B.1 all0 (by decide) (by decide) (by decide) (by decide) (lenOf pd_33 rfl) rfl (nb rfl) rfl (Y33 2 rfl) (pc' := 5) rfl ?_
  intro vm1 T1 h1 v1 C1 A1 M1 q1
  obtain ⟨rfl, rfl⟩ := q1
  refine C1.aL (Y33 3 rfl) rfl rfl (C1.aL (Y33 4 rfl) rfl rfl ?_)
  refine C1.getF (W220 hw) B.2.2.1 (Y33 5 rfl) (pc' := 10) rfl ?_
  intro T2 C2
  refine C2.iL (Y33 6 rfl) rfl (C2.aL (Y33 7 rfl) rfl rfl ?_)
  refine C2.getF (W222 hw) B.2.1.1 (Y33 8 rfl) (pc' := 15) rfl ?_
  intro T3 C3
  have f5 := (A1.safe B.2.2.2.1.lt (S0 tb (by simp)))
  refine C3.virtual (W := 0) (wd hw 253 rfl) (wd hw 254 rfl) (fun _ q => notFace_of_selects (args := #[]) (mvT q (wd hw 256 rfl))) (wd hw 256 rfl) (wd hw 255 rfl) (wd hw 257 rfl) (W10 hw) (by decide) (rm_getBytes l Z a0 EL G a t kc cs tb kb ps cap h C3.old S B.2.2.2.1 hle B.le4 zt) (fun _ => rfl) rfl S.1 (allS ⟨B.2.2.2.1.lt, f5⟩ all0) (by decide) (by decide) (by decide) (by decide) (lenOf pd_285b4249422956 rfl) rfl (nb rfl) rfl (Y33 9 rfl) (pc' := 18) rfl ?_
  intro vm4 T4 h4 v4 C4 A4 M4 q4
  obtain ⟨rfl, K4, V4⟩ := q4
  exact C4.retV (Y33 10 rfl) (by decide) (by decide) ⟨rfl, K4, V4⟩
theorem rm_ensure (G : Glob Z a0 EL) (b tb : Addr) (kb : ClassId) (ps : List Int32) (cap kk : Nat) (h : Heap) (O : Ext Z.heap h) (B : Sb Z h b tb kb ps cap) (hk : kk ≤ cap) :
    Met l Z EL true ⟨"java/lang/AbstractStringBuilder", "ensureCapacityInternal", "(I)V"⟩ jdk_68_method_9_code 3 none [] ⟨0, 0, 0, 0⟩ #[(.ref b), (.int (Int32.ofNat kk))] h [] (fun r h' => r = none ∧ h = h') := by
  have hw := G.hw
  obtain ⟨vo, So, hvo⟩ := G.fo
  refine Met.of (plainFor_of_name pn_75696c646572_3) G.ew O ?_
  intro p e s m below meth c T0 C0 S0
  refine Endw.eq (g' := mkF m 0 #[.val (.ref b), .val (.int (Int32.ofNat kk)), .unset] []) rfl ?_
  refine C0.aL (Y34 0 rfl) rfl rfl ?_
  refine C0.getF (W220 hw) B.2.2.1 (Y34 1 rfl) (pc' := 4) rfl ?_
  intro T1 C1
  refine C1.len B.2.2.2.1 (Y34 2 rfl) (pc' := 5) rfl ?_
  refine C1.aL (Y34 3 rfl) rfl rfl ?_
  refine C1.getF (W222 hw) B.2.1.1 (Y34 4 rfl) (pc' := 9) rfl ?_
  intro T2 C2
  refine Endw.st (T' := T2) (g' := (mkF m 10 #[.val (.ref b), .val (.int (Int32.ofNat kk)), .unset] [(.int ((Int32.ofNat cap) >>> ((0 : Int32) &&& 31)))])) (fun _ k_ => XS.ishr C2.here C2.hx rfl (C2.dec (Y34 5 rfl)) rfl k_) ?_
  rw [own_shr0]
  refine C2.iS (Y34 6 rfl) (l' := #[.val (.ref b), .val (.int (Int32.ofNat kk)), .val (.int (Int32.ofNat cap))]) rfl (C2.iL (Y34 7 rfl) rfl (C2.iL (Y34 8 rfl) rfl (C2.sb (z := ((Int32.ofNat kk) - (Int32.ofNat cap))) (Y34 9 rfl) rfl (C2.fY (pc' := 38) (Y34 10 rfl) (XT.i0_le_t (own_sub_le hk B.le4)) (by decide) rfl ?_))))
  exact C2.retV (Y34 11 rfl) (by decide) (by decide) ⟨rfl, rfl⟩
theorem rm_asbAppend (G : Glob Z a0 EL) (b tb : Addr) (kb : ClassId) (ps : List Int32) (cap : Nat) (a t : Addr) (kc : ClassId) (cs : List Int32) (h : Heap) (O : Ext Z.heap h) (B : Sb Z h b tb kb ps cap) (S : Str Z h a t kc cs) (hle : ps.length + cs.length ≤ cap) (zb : Z.heap.size ≤ b) (zt : Z.heap.size ≤ tb) :
    Met l Z EL true ⟨"java/lang/AbstractStringBuilder", "append", "(Ljava/lang/String;)Ljava/lang/AbstractStringBuilder;"⟩ jdk_68_method_22_code 3 (some (.object "java/lang/AbstractStringBuilder")) [] ⟨3, 0, 0, 47⟩ #[(.ref b), (.ref a)] h [tb] (fun r h' => r = some (.ref b) ∧ Keep h h' [b, tb] ∧ Sb Z h' b tb kb (ps ++ cs) cap) := by
  have hw := G.hw
  obtain ⟨vo, So, hvo⟩ := G.fo
  refine Met.of (plainFor_of_name pn_75696c646572_3) G.ew O ?_
  intro p e s m below meth c T0 C0 S0
  refine Endw.eq (g' := mkF m 0 #[.val (.ref b), .val (.ref a), .unset] []) rfl ?_
  refine C0.aL (Y35 0 rfl) rfl rfl ?_
  refine Endw.st (T' := T0) (g' := (mkF m 9 #[.val (.ref b), .val (.ref a), .unset] [])) (fun _ k_ => XS.ifnonnullYes C0.here C0.hx rfl (pc0 := 1) rfl (C0.dec (Y35 1 rfl)) rfl (by decide) rfl k_) ?_
  refine C0.aL (Y35 2 rfl) rfl rfl ?_
  refine C0.virtual (W := 0) (wd hw 234 rfl) (W61 hw) (fun _ q => notFace_of_selects (args := #[]) (mvT q (W63 hw))) (W63 hw) (W62 hw) (W64 hw) (W10 hw) (by decide) (rm_strLen l Z a0 EL G a t kc cs h C0.old S) (fun _ => rfl) rfl S.1 all0 (by decide) (by decide) (by decide) (by decide) (lenOf pd_282949 rfl) rfl (nb rfl) rfl (Y35 3 rfl) (pc' := 13) rfl ?_
  intro vm1 T1 h1 v1 C1 A1 M1 q1
  obtain ⟨rfl, rfl⟩ := q1
  refine C1.iS (Y35 4 rfl) (l' := #[.val (.ref b), .val (.ref a), .val (.int (Int32.ofNat cs.length))]) rfl (C1.aL (Y35 5 rfl) rfl rfl (C1.aL (Y35 6 rfl) rfl rfl ?_))
  refine C1.getF (W235 hw) B.2.1.2 (Y35 7 rfl) (pc' := 19) rfl ?_
  intro T2 C2
  refine C2.iL (Y35 8 rfl) rfl (C2.ad (z := ((Int32.ofNat ps.length) + (Int32.ofNat cs.length))) (Y35 9 rfl) rfl ?_)
  rw [show ((Int32.ofNat ps.length) + (Int32.ofNat cs.length)) = (Int32.ofNat (ps ++ cs).length) from by rw [own_add, List.length_append]]
  refine C2.priv (W := 0) (wd hw 237 rfl) (W238 hw) (own_plain (y := ⟨"java/lang/AbstractStringBuilder", "ensureCapacityInternal", "(I)V"⟩) (W240 hw) (W238 hw)) (wd hw 239 rfl) (wd hw 241 rfl) (W216 hw) (by decide) (rm_ensure l Z a0 EL G b tb kb ps cap (ps ++ cs).length h C2.old B (by rw [List.length_append]; exact hle)) (fun _ => rfl) rfl B.1 all0 (by decide) (by decide) (by decide) (by decide) (lenOf pd_28492956 rfl) rfl (nb rfl) rfl (Y35 10 rfl) (pc' := 24) rfl ?_
  intro vm3 T3 h3 v3 C3 A3 M3 q3
  obtain ⟨rfl, rfl⟩ := q3
  refine C3.aL (Y35 11 rfl) rfl rfl (C3.aL (Y35 12 rfl) rfl rfl ?_)
  refine C3.getF (W235 hw) B.2.1.2 (Y35 13 rfl) (pc' := 29) rfl ?_
  intro T4 C4
  refine C4.aL (Y35 14 rfl) rfl rfl ?_
  have f6 := (A3.safe B.2.2.2.1.lt (A1.safe B.2.2.2.1.lt (S0 tb (by simp))))
  refine C4.priv (W := 0) (wd hw 242 rfl) (wd hw 243 rfl) (own_plain (y := ⟨"java/lang/AbstractStringBuilder", "ensureCapacityInternal", "(I)V"⟩) (W240 hw) (W238 hw)) (wd hw 244 rfl) (wd hw 246 rfl) (W216 hw) (by decide) (rm_putStr l Z a0 EL G b tb kb ps cap a t kc cs h C4.old B S hle zt) (fun _ => rfl) rfl B.1 (allS ⟨B.2.2.2.1.lt, f6⟩ all0) (by decide) (by decide) (by decide) (by decide) (lenOf pd_22 rfl) rfl (nb rfl) rfl (Y35 15 rfl) (pc' := 33) rfl ?_
  intro vm5 T5 h5 v5 C5 A5 M5 q5
  obtain ⟨rfl, K5, V5⟩ := q5
  refine C5.aL (Y35 16 rfl) rfl rfl (C5.du (Y35 17 rfl) rfl ?_)
  have ne7 : b ≠ tb := (RoadKit.Exa.neArv B.1 B.2.2.2.1 (W207 hw))
  have f8 := (B.2.1.2.keep K5 (ninS ne7 nin0))
  refine C5.getF (W235 hw) f8 (Y35 18 rfl) (pc' := 38) rfl ?_
  intro T9 C9
  refine C9.iL (Y35 19 rfl) rfl (C9.ad (z := ((Int32.ofNat ps.length) + (Int32.ofNat cs.length))) (Y35 20 rfl) rfl ?_)
  rw [show ((Int32.ofNat ps.length) + (Int32.ofNat cs.length)) = (Int32.ofNat (ps ++ cs).length) from by rw [own_add, List.length_append]]
  have f10 := (B.1.keep K5)
  have f12 := (B.2.1.1.keep K5 (ninS ne7 nin0))
  have f13 := (B.2.2.1.keep K5 (ninS ne7 nin0))
  refine C9.putF (v := (.int (Int32.ofNat (ps ++ cs).length))) (W235 hw) f8 f10 (Or.inl (W236 hw)) (W207 hw) (ty := .int) (by decide) rfl rfl zb (Safe.exa C9.warm.alike f10 (by decide) (by decide)) (Y35 21 rfl) (pc' := 43) rfl ?_
  intro T11 h11 C11 K11 A11 Wr11
  have f14 := f8.same Wr11
  have f15 := f12.other Wr11 (Or.inr (slot_ne (Or.inl (W223 hw)) (Or.inl (W236 hw)) (by decide) (t := .byte) (t' := .int) (by decide) (by decide)))
  have f16 := f13.other Wr11 (Or.inr (slot_ne (Or.inl (W221 hw)) (Or.inl (W236 hw)) (by decide) (t := (.array .byte)) (t' := .int) (by decide) (by decide)))
  refine C11.aL (Y35 22 rfl) rfl rfl ?_
  have f17 := (f10.keep K11)
  have f18 := (V5.keep K11 (ninS (Ne.symm ne7) nin0))
  have KK19 := (kT (kT (kR h [tb, b]) K5 (allS m0 all0)) K11 (allS m1 all0))
  exact C11.retA (t := (.object "java/lang/AbstractStringBuilder")) rfl rfl rfl rfl (Y35 23 rfl) (by decide) (by decide) ⟨rfl, (kT (kR h [b, tb]) KK19 (allS m1 (allS m0 all0))), ⟨f17, ⟨f15, f14⟩, f16, f18, own_all_app B.2.2.2.2.1 S.2.2.2.2.1, by rw [List.length_append]; exact hle, B.le4⟩⟩
theorem rm_sbAppend (G : Glob Z a0 EL) (b tb : Addr) (kb : ClassId) (ps : List Int32) (cap : Nat) (a t : Addr) (kc : ClassId) (cs : List Int32) (h : Heap) (O : Ext Z.heap h) (B : Sb Z h b tb kb ps cap) (S : Str Z h a t kc cs) (hle : ps.length + cs.length ≤ cap) (zb : Z.heap.size ≤ b) (zt : Z.heap.size ≤ tb) :
    Met l Z EL true ⟨"java/lang/StringBuilder", "append", "(Ljava/lang/String;)Ljava/lang/StringBuilder;"⟩ jdk_67_method_7_code 2 (some (.object "java/lang/StringBuilder")) [] ⟨4, 0, 0, 61⟩ #[(.ref b), (.ref a)] h [tb] (fun r h' => r = some (.ref b) ∧ Keep h h' [b, tb] ∧ Sb Z h' b tb kb (ps ++ cs) cap) := by
  have hw := G.hw
  obtain ⟨vo, So, hvo⟩ := G.fo
  refine Met.of (plainFor_of_name pn_75696c646572_7) G.ew O ?_
  intro p e s m below meth c T0 C0 S0
  refine Endw.eq (g' := mkF m 0 #[.val (.ref b), .val (.ref a)] []) rfl ?_
  refine C0.aL (Y36 0 rfl) rfl rfl (C0.aL (Y36 1 rfl) rfl rfl ?_)
  refine C0.super (y := ⟨"java/lang/AbstractStringBuilder", "append", "(Ljava/lang/String;)Ljava/lang/AbstractStringBuilder;"⟩) (W := 0) (a := b) (argsL := [(.ref a)]) (rest := []) (by decide) (wd hw 229 rfl) (own_same (wd hw 232 rfl) (own_plain (y := ⟨"java/lang/AbstractStringBuilder", "ensureCapacityInternal", "(I)V"⟩) (W240 hw) (W238 hw)) (by decide)) (wd hw 230 rfl) (wd hw 231 rfl) (wd hw 233 rfl) (W216 hw) (rm_asbAppend l Z a0 EL G b tb kb ps cap a t kc cs h C0.old B S hle zb zt) (fun _ => rfl) rfl B.1 (allS ⟨B.2.2.2.1.lt, (S0 tb (by simp))⟩ all0) (by decide) (by decide) (by decide) (by decide) (lenOf pd_30 rfl) rfl (nb rfl) rfl (Y36 2 rfl) (pc' := 5) rfl ?_
  intro vm1 T1 h1 v1 C1 A1 M1 q1
  obtain ⟨rfl, K1, Z1⟩ := q1
  refine Endw.st (T' := T1) (g' := (mkF m 6 #[.val (.ref b), .val (.ref a)] [])) (fun _ k_ => XS.pop C1.here C1.hx rfl (C1.dec (Y36 3 rfl)) rfl rfl k_) ?_
  refine C1.aL (Y36 4 rfl) rfl rfl ?_
  exact C1.retA (t := (.object "java/lang/StringBuilder")) rfl rfl rfl rfl (Y36 5 rfl) (by decide) (by decide) ⟨rfl, K1, Z1⟩
theorem rm_asbInit (G : Glob Z a0 EL) (b : Addr) (h : Heap) (O : Ext Z.heap h) (E0 : Exa Z h b "java/lang/StringBuilder") (F0 : Fld Z h b "java/lang/AbstractStringBuilder" "value" "[B" .null) (F1 : Fld Z h b "java/lang/AbstractStringBuilder" "coder" "B" (.int 0)) (F2 : Fld Z h b "java/lang/AbstractStringBuilder" "count" "I" (.int 0)) (zb : Z.heap.size ≤ b) :
    Met l Z EL true ⟨"java/lang/AbstractStringBuilder", "<init>", "(I)V"⟩ jdk_68_method_2_code 2 none [] ⟨1, 1, 16, 12⟩ #[(.ref b), (.int 16)] h [] (fun r h' => r = none ∧ ∃ (t : Addr) (kb : ClassId), Keep h h' [b] ∧ h.size ≤ t ∧ Z.heap.size ≤ t ∧ Sb Z h' b t kb [] 16) := by
  have hw := G.hw
  obtain ⟨zc, Sc, hzc⟩ := G.cs
  obtain ⟨vo, So, hvo⟩ := G.fo
  refine Met.of (plainFor_of_name pn_75696c646572_3) G.ew O ?_
  intro p e s m below meth c T0 C0 S0
  refine Endw.eq (g' := mkF m 0 #[.val (.ref b), .val (.int 16)] []) rfl ?_
  refine C0.aL (Y37 0 rfl) rfl rfl ?_
  refine C0.initO (wd hw 218 rfl) (W19 hw) (W20 hw) rfl (Y37 1 rfl) (pc' := 4) rfl (by decide) (W := 0) (nb rfl) (by decide) ?_
  intro T1 C1
  refine C1.getS (wd hw 219 rfl) Sc (Y37 2 rfl) (pc' := 7) rfl ?_
  intro T2 C2
  refine C2.fN (Y37 3 rfl) (XT.i0_eq_f hzc) (C2.aL (Y37 4 rfl) rfl rfl (C2.iL (Y37 5 rfl) rfl ?_))
  refine C2.newA (aty := .byte) (z := (16 : Int32)) (cap := 16) (vs := []) (W26 hw) (Y37 6 rfl) (pc' := 14) rfl (by decide) (by decide) (by decide) (by decide) (by decide) rfl ?_
  intro T3 h3 a3 kA3 C3 K3 A3 ge3 zg3 V3 S3
  have f4 := (E0.keep K3)
  have f5 := (F0.keep K3 nin0)
  have f7 := (F1.keep K3 nin0)
  have f8 := (F2.keep K3 nin0)
  refine C3.putF (v := (.ref a3)) (W220 hw) f5 f4 (Or.inl (W221 hw)) (W207 hw) (ty := (.array .byte)) (by decide) rfl rfl zb (Safe.exa C3.warm.alike f4 (by decide) (by decide)) (Y37 7 rfl) (pc' := 17) rfl ?_
  intro T6 h6 C6 K6 A6 Wr6
  have f9 := f5.same Wr6
  have f10 := f7.other Wr6 (Or.inr (slot_ne (Or.inl (W223 hw)) (Or.inl (W221 hw)) (by decide) (t := .byte) (t' := (.array .byte)) (by decide) (by decide)))
  have f11 := f8.other Wr6 (Or.inr (slot_ne (Or.inl (W236 hw)) (Or.inl (W221 hw)) (by decide) (t := .int) (t' := (.array .byte)) (by decide) (by decide)))
  refine C6.aL (Y37 8 rfl) rfl rfl (C6.ic (z := 0) (Y37 9 rfl) rfl ?_)
  have f12 := (f4.keep K6)
  refine C6.putF (v := (.int 0)) (W222 hw) f10 f12 (Or.inl (W223 hw)) (W207 hw) (ty := .byte) (by decide) rfl rfl zb (Safe.exa C6.warm.alike f12 (by decide) (by decide)) (Y37 10 rfl) (pc' := 22) rfl ?_
  intro T13 h13 C13 K13 A13 Wr13
  have f14 := f10.same Wr13
  have f15 := f9.other Wr13 (Or.inr (slot_ne (Or.inl (W221 hw)) (Or.inl (W223 hw)) (by decide) (t := (.array .byte)) (t' := .byte) (by decide) (by decide)))
  have f16 := f11.other Wr13 (Or.inr (slot_ne (Or.inl (W236 hw)) (Or.inl (W223 hw)) (by decide) (t := .int) (t' := .byte) (by decide) (by decide)))
  refine C13.go (pc' := 38) (Y37 11 rfl) (by decide) rfl ?_
  have KK17 := (kT (kT (kR h3 [b]) K6 (allS m0 all0)) K13 (allS m0 all0))
  have ne18 : a3 ≠ b := (Ne.symm (nL (lL E0.lt ge3)))
  have f19 := (V3.keep KK17 (ninS ne18 nin0))
  have KK20 := (kT (kT (kT (kR h [b]) K3 all0) K6 (allS m0 all0)) K13 (allS m0 all0))
  have f21 := (f12.keep K13)
  exact C13.retV (Y37 12 rfl) (by decide) (by decide) ⟨rfl, a3, kA3, KK20, ge3, zg3, ⟨f21, ⟨f14, f16⟩, f15, f19, own_c0, by decide, by decide⟩⟩
theorem rm_sbInit (G : Glob Z a0 EL) (b : Addr) (h : Heap) (O : Ext Z.heap h) (E0 : Exa Z h b "java/lang/StringBuilder") (F0 : Fld Z h b "java/lang/AbstractStringBuilder" "value" "[B" .null) (F1 : Fld Z h b "java/lang/AbstractStringBuilder" "coder" "B" (.int 0)) (F2 : Fld Z h b "java/lang/AbstractStringBuilder" "count" "I" (.int 0)) (zb : Z.heap.size ≤ b) :
    Met l Z EL true ⟨"java/lang/StringBuilder", "<init>", "()V"⟩ jdk_67_method_1_code 1 none [] ⟨2, 1, 16, 25⟩ #[(.ref b)] h [] (fun r h' => r = none ∧ ∃ (t : Addr) (kb : ClassId), Keep h h' [b] ∧ h.size ≤ t ∧ Z.heap.size ≤ t ∧ Sb Z h' b t kb [] 16) := by
  have hw := G.hw
  obtain ⟨vo, So, hvo⟩ := G.fo
  refine Met.of (plainFor_of_name pn_75696c646572_7) G.ew O ?_
  intro p e s m below meth c T0 C0 S0
  refine Endw.eq (g' := mkF m 0 #[.val (.ref b)] []) rfl ?_
  refine C0.aL (Y38 0 rfl) rfl rfl (C0.bi (z := 16) (Y38 1 rfl) rfl ?_)
  refine C0.special (y := ⟨"java/lang/AbstractStringBuilder", "<init>", "(I)V"⟩) (W := 0) rfl (wd hw 212 rfl) (wd hw 213 rfl) (wd hw 217 rfl) (W216 hw) (by decide) (rm_asbInit l Z a0 EL G b h C0.old E0 F0 F1 F2 zb) (fun _ => rfl) rfl all0 (by decide) (by decide) (by decide) (by decide) (lenOf pd_28492956 rfl) rfl (nb rfl) rfl (Y38 2 rfl) (pc' := 6) rfl ?_
  intro vm1 T1 h1 v1 C1 A1 M1 q1
  obtain ⟨rfl, t1, kb1, K1, ge1, zg1, Z1⟩ := q1
  exact C1.retV (Y38 3 rfl) (by decide) (by decide) ⟨rfl, t1, kb1, K1, ge1, zg1, Z1⟩
theorem rm_getValue (G : Glob Z a0 EL) (b t : Addr) (h : Heap) (O : Ext Z.heap h) (F0 : Fld Z h b "java/lang/AbstractStringBuilder" "value" "[B" (.ref t)) :
    Met l Z EL true ⟨"java/lang/AbstractStringBuilder", "getValue", "()[B"⟩ jdk_68_method_64_code 1 (some (.array .byte)) [] ⟨0, 0, 0, 0⟩ #[(.ref b)] h [] (fun r h' => r = some (.ref t) ∧ h = h') := by
  have hw := G.hw
  obtain ⟨vo, So, hvo⟩ := G.fo
  refine Met.of (plainFor_of_name pn_75696c646572_3) G.ew O ?_
  intro p e s m below meth c T0 C0 S0
  refine Endw.eq (g' := mkF m 0 #[.val (.ref b)] []) rfl ?_
  refine C0.aL (Y39 0 rfl) rfl rfl ?_
  refine C0.getF (W220 hw) F0 (Y39 1 rfl) (pc' := 4) rfl ?_
  intro T1 C1
  exact C1.retA (t := (.array .byte)) rfl rfl rfl rfl (Y39 2 rfl) (by decide) (by decide) ⟨rfl, rfl⟩
theorem rm_asbLen (G : Glob Z a0 EL) (b : Addr) (x : Int32) (h : Heap) (O : Ext Z.heap h) (E0 : Exa Z h b "java/lang/StringBuilder") (F0 : Fld Z h b "java/lang/AbstractStringBuilder" "count" "I" (.int x)) :
    Met l Z EL true ⟨"java/lang/AbstractStringBuilder", "length", "()I"⟩ jdk_68_method_6_code 1 (some .int) [] ⟨0, 0, 0, 0⟩ #[(.ref b)] h [] (fun r h' => r = some (.int x) ∧ h = h') := by
  have hw := G.hw
  obtain ⟨vo, So, hvo⟩ := G.fo
  refine Met.of (plainFor_of_name pn_75696c646572_3) G.ew O ?_
  intro p e s m below meth c T0 C0 S0
  refine Endw.eq (g' := mkF m 0 #[.val (.ref b)] []) rfl ?_
  refine C0.aL (Y40 0 rfl) rfl rfl ?_
  refine C0.getF (W235 hw) F0 (Y40 1 rfl) (pc' := 4) rfl ?_
  intro T1 C1
  exact C1.retI (t := .int) rfl (by simp) rfl (Y40 2 rfl) (by decide) (by decide) ⟨rfl, rfl⟩
theorem rm_sbLen (G : Glob Z a0 EL) (b : Addr) (x : Int32) (h : Heap) (O : Ext Z.heap h) (E0 : Exa Z h b "java/lang/StringBuilder") (F0 : Fld Z h b "java/lang/AbstractStringBuilder" "count" "I" (.int x)) :
    Met l Z EL true ⟨"java/lang/StringBuilder", "length", "()I"⟩ jdk_67_method_93_code 1 (some .int) [] ⟨1, 0, 0, 12⟩ #[(.ref b)] h [] (fun r h' => r = some (.int x) ∧ h = h') := by
  have hw := G.hw
  obtain ⟨vo, So, hvo⟩ := G.fo
  refine Met.of (plainFor_of_name pn_75696c646572_7) G.ew O ?_
  intro p e s m below meth c T0 C0 S0
  refine Endw.eq (g' := mkF m 0 #[.val (.ref b)] []) rfl ?_
  refine C0.aL (Y41 0 rfl) rfl rfl ?_
  refine C0.super (y := ⟨"java/lang/AbstractStringBuilder", "length", "()I"⟩) (W := 0) (a := b) (argsL := []) (rest := []) (by decide) (wd hw 299 rfl) (own_same (wd hw 294 rfl) (own_plain (y := ⟨"java/lang/AbstractStringBuilder", "ensureCapacityInternal", "(I)V"⟩) (W240 hw) (W238 hw)) (by decide)) (wd hw 295 rfl) (wd hw 231 rfl) (wd hw 300 rfl) (W216 hw) (rm_asbLen l Z a0 EL G b x h C0.old E0 F0) (fun _ => rfl) rfl E0 all0 (by decide) (by decide) (by decide) (by decide) (lenOf pd_282949 rfl) rfl (nb rfl) rfl (Y41 1 rfl) (pc' := 4) rfl ?_
  intro vm1 T1 h1 v1 C1 A1 M1 q1
  obtain ⟨rfl, rfl⟩ := q1
  exact C1.retI (t := .int) rfl (by simp) rfl (Y41 2 rfl) (by decide) (by decide) ⟨rfl, rfl⟩
theorem rm_asbLat (G : Glob Z a0 EL) (b : Addr) (h : Heap) (O : Ext Z.heap h) (F0 : Fld Z h b "java/lang/AbstractStringBuilder" "coder" "B" (.int 0)) :
    Met l Z EL true ⟨"java/lang/AbstractStringBuilder", "isLatin1", "()Z"⟩ jdk_68_method_68_code 1 (some .boolean) [] ⟨0, 0, 0, 0⟩ #[(.ref b)] h [] (fun r h' => r = some (.int 1) ∧ h = h') := by
  have hw := G.hw
  obtain ⟨zc, Sc, hzc⟩ := G.cs
  obtain ⟨vo, So, hvo⟩ := G.fo
  refine Met.of (plainFor_of_name pn_75696c646572_3) G.ew O ?_
  intro p e s m below meth c T0 C0 S0
  refine Endw.eq (g' := mkF m 0 #[.val (.ref b)] []) rfl ?_
  refine C0.getS (wd hw 219 rfl) Sc (Y42 0 rfl) (pc' := 3) rfl ?_
  intro T1 C1
  refine C1.fN (Y42 1 rfl) (XT.i0_eq_f hzc) (C1.aL (Y42 2 rfl) rfl rfl ?_)
  refine C1.getF (W222 hw) F0 (Y42 3 rfl) (pc' := 10) rfl ?_
  intro T2 C2
  refine C2.fN (Y42 4 rfl) (XT.i0_ne_f (by decide)) (C2.ic (z := 1) (Y42 5 rfl) rfl (C2.go (pc' := 18) (Y42 6 rfl) (by decide) rfl ?_))
  exact C2.retI (t := .boolean) rfl (by simp) rfl (Y42 7 rfl) (by decide) (by decide) ⟨rfl, rfl⟩
theorem rm_copyRB (G : Glob Z a0 EL) (t : Addr) (kb : ClassId) (cs : List Int32) (cap : Nat) (h : Heap) (O : Ext Z.heap h) (V : Arv Z h t kb .byte (Int32.ofNat cap) (bys cs) (.int 0)) (hlt : cs.length < cap) (hcap : cap ≤ 4000) (hl : cs.length ≤ 16) :
    Met l Z EL true ⟨"java/util/Arrays", "copyOfRangeByte", "([BII)[B"⟩ jdk_65_method_133_code 5 (some (.array .byte)) [] ⟨1, 1, 16, 18⟩ #[(.ref t), (.int 0), (.int (Int32.ofNat cs.length))] h [] (fun r h' => ∃ (d : Addr) (kd : ClassId), r = some (.ref d) ∧ Keep h h' [] ∧ h.size ≤ d ∧ Z.heap.size ≤ d ∧ Arv Z h' d kd .byte (Int32.ofNat cs.length) (bys cs) (.int 0)) := by
  have hw := G.hw
  obtain ⟨vo, So, hvo⟩ := G.fo
  refine Met.of (plainFor_of_name pn_417272617973_10) G.ew O ?_
  intro p e s m below meth c T0 C0 S0
  refine Endw.eq (g' := mkF m 0 #[.val (.ref t), .val (.int 0), .val (.int (Int32.ofNat cs.length)), .unset, .unset] []) rfl ?_
  refine C0.iL (Y21 0 rfl) rfl (C0.iL (Y21 1 rfl) rfl ?_)
  refine C0.static (W := 0) (wd hw 137 rfl) (wd hw 138 rfl) (wd hw 139 rfl) (W132 hw) (by decide) (rm_checkLen l Z a0 EL G (0 : Int32) (Int32.ofNat cs.length) (own_nn (by omega)) h C0.old) (fun _ => rfl) rfl all0 (by decide) (by decide) (by decide) (by decide) (lenOf pd_2849492956 rfl) rfl (nb rfl) rfl (Y21 2 rfl) (pc' := 5) rfl ?_
  intro vm1 T1 h1 v1 C1 A1 M1 q1
  obtain ⟨rfl, rfl⟩ := q1
  refine C1.iL (Y21 3 rfl) rfl (C1.iL (Y21 4 rfl) rfl (C1.sb (z := ((Int32.ofNat cs.length) - (0 : Int32))) (Y21 5 rfl) rfl ?_))
  rw [show ((Int32.ofNat cs.length) - (0 : Int32)) = (Int32.ofNat cs.length) from own_sub0 _]
  refine C1.iS (Y21 6 rfl) (l' := #[.val (.ref t), .val (.int 0), .val (.int (Int32.ofNat cs.length)), .val (.int (Int32.ofNat cs.length)), .unset]) rfl (C1.iL (Y21 7 rfl) rfl ?_)
  refine C1.newA (aty := .byte) (z := (Int32.ofNat cs.length)) (cap := 16) (vs := []) (W26 hw) (Y21 8 rfl) (pc' := 12) rfl (own_nn (by omega)) (by rw [own_nc (by omega)]; exact hl) (by decide) (by decide) (by decide) rfl ?_
  intro T2 h2 a2 kA2 C2 K2 A2 ge2 zg2 V2 S2
  refine C2.aSk (Y21 9 rfl) rfl (l' := #[.val (.ref t), .val (.int 0), .val (.int (Int32.ofNat cs.length)), .val (.int (Int32.ofNat cs.length)), .val (.ref a2)]) rfl (C2.aL (Y21 10 rfl) rfl rfl (C2.iL (Y21 11 rfl) rfl (C2.aLk (Y21 12 rfl) rfl rfl (C2.ic (z := 0) (Y21 13 rfl) rfl (C2.aL (Y21 14 rfl) rfl rfl ?_)))))
  have f3 := (V.keep K2 nin0)
  refine C2.len f3 (Y21 15 rfl) (pc' := 21) rfl ?_
  refine C2.iL (Y21 16 rfl) rfl (C2.sb (z := ((Int32.ofNat cap) - (0 : Int32))) (Y21 17 rfl) rfl ?_)
  rw [show ((Int32.ofNat cap) - (0 : Int32)) = (Int32.ofNat cap) from own_sub0 _]
  refine C2.iL (Y21 18 rfl) rfl ?_
  refine C2.static (W := 4) (wd hw 140 rfl) (wd hw 82 rfl) (wd hw 83 rfl) (wd hw 79 rfl) (by decide) (rm_min l Z a0 EL G (Int32.ofNat cap) (Int32.ofNat cs.length) h2 C2.old) (fun _ => rfl) rfl all0 (by decide) (by decide) (by decide) (by decide) (lenOf pd_2849492949 rfl) rfl (nb rfl) rfl (Y21 19 rfl) (pc' := 27) rfl ?_
  intro vm4 T4 h4 v4 C4 A4 M4 q4
  rw [(own_min_r (by omega) (by omega))] at q4
  obtain ⟨rfl, rfl⟩ := q4
  have f6 := (A4.safe V2.lt S2)
  refine C4.acopyNew (cs := cs) (cap := cap) (N := cs.length) (M := cs.length) (W := 0) (wd hw 141 rfl) (wd hw 144 rfl) (wd hw 142 rfl) (wd hw 143 rfl) f3 V2 (Nat.le_refl _) (by omega) (Nat.le_refl _) hcap (by omega) zg2 f6 rfl (Y21 20 rfl) (pc' := 30) rfl (by decide) (nb rfl) (by decide) ?_
  intro T5 h5 C5 K5 A5 V5
  refine C5.aLk (Y21 21 rfl) rfl rfl ?_
  have KK7 := (kT (kT (kR h []) K2 all0) K5 (allS (Or.inr ge2) all0))
  exact C5.retA (t := (.array .byte)) rfl rfl rfl rfl (Y21 22 rfl) (by decide) (by decide) ⟨a2, kA2, rfl, KK7, ge2, zg2, V5⟩
theorem rm_copyR (G : Glob Z a0 EL) (t : Addr) (kb : ClassId) (cs : List Int32) (cap : Nat) (h : Heap) (O : Ext Z.heap h) (V : Arv Z h t kb .byte (Int32.ofNat cap) (bys cs) (.int 0)) (hlt : cs.length < cap) (hcap : cap ≤ 4000) (hl : cs.length ≤ 16) :
    Met l Z EL true ⟨"java/util/Arrays", "copyOfRange", "([BII)[B"⟩ jdk_65_method_132_code 3 (some (.array .byte)) [] ⟨2, 1, 16, 34⟩ #[(.ref t), (.int 0), (.int (Int32.ofNat cs.length))] h [] (fun r h' => ∃ (d : Addr) (kd : ClassId), r = some (.ref d) ∧ Keep h h' [] ∧ h.size ≤ d ∧ Z.heap.size ≤ d ∧ Arv Z h' d kd .byte (Int32.ofNat cs.length) (bys cs) (.int 0)) := by
  have hw := G.hw
  obtain ⟨vo, So, hvo⟩ := G.fo
  refine Met.of (plainFor_of_name pn_417272617973_10) G.ew O ?_
  intro p e s m below meth c T0 C0 S0
  refine Endw.eq (g' := mkF m 0 #[.val (.ref t), .val (.int 0), .val (.int (Int32.ofNat cs.length))] []) rfl ?_
  refine C0.iL (Y22 0 rfl) rfl (C0.fN (Y22 1 rfl) (XT.i0_ne_f (by decide)) (C0.iL (Y22 2 rfl) rfl (C0.aL (Y22 3 rfl) rfl rfl ?_)))
  refine C0.len V (Y22 4 rfl) (pc' := 7) rfl ?_
  refine C0.cN (Y22 5 rfl) (XT.ii_eq_f (fun q => absurd ((own_ieq (by omega) (by omega)).mp q) (by omega))) (C0.aL (Y22 6 rfl) rfl rfl (C0.iL (Y22 7 rfl) rfl (C0.iL (Y22 8 rfl) rfl ?_)))
  refine C0.static (W := 0) (wd hw 134 rfl) (wd hw 135 rfl) (wd hw 136 rfl) (W132 hw) (by decide) (rm_copyRB l Z a0 EL G t kb cs cap h C0.old V hlt hcap hl) (fun _ => rfl) rfl all0 (by decide) (by decide) (by decide) (by decide) (lenOf pd_285b424949295b42 rfl) rfl (nb rfl) rfl (Y22 9 rfl) (pc' := 16) rfl ?_
  intro vm1 T1 h1 v1 C1 A1 M1 q1
  obtain ⟨d1, kd1, rfl, K1, ge1, zg1, V1⟩ := q1
  exact C1.retA (t := (.array .byte)) rfl rfl rfl rfl (Y22 10 rfl) (by decide) (by decide) ⟨d1, kd1, rfl, K1, ge1, zg1, V1⟩
theorem rm_strInitASB (G : Glob Z a0 EL) (a b t : Addr) (kb : ClassId) (cs : List Int32) (cap : Nat) (h : Heap) (O : Ext Z.heap h) (E0 : Exa Z h a "java/lang/String") (F0 : Fld Z h a "java/lang/String" "value" "[B" .null) (F1 : Fld Z h a "java/lang/String" "coder" "B" (.int 0)) (za : Z.heap.size ≤ a) (B : Sb Z h b t kb cs cap) (hlt : cs.length < cap) (hl : cs.length ≤ 16) :
    Met l Z EL true ⟨"java/lang/String", "<init>", "(Ljava/lang/AbstractStringBuilder;Ljava/lang/Void;)V"⟩ jdk_42_method_150_code 5 none [] ⟨3, 1, 16, 49⟩ #[(.ref a), (.ref b), .null] h [a] (fun r h' => r = none ∧ ∃ (d : Addr) (kd : ClassId), Keep h h' [a] ∧ h.size ≤ d ∧ Z.heap.size ≤ d ∧ Str Z h' a d kd cs) := by
  have hw := G.hw
  obtain ⟨vo, So, hvo⟩ := G.fo
  refine Met.of (plainFor_of_name pn_537472696e67_6) G.ew O ?_
  intro p e s m below meth c T0 C0 S0
  refine Endw.eq (g' := mkF m 0 #[.val (.ref a), .val (.ref b), .val .null, .unset, .unset] []) rfl ?_
  refine C0.aL (Y43 0 rfl) rfl rfl ?_
  refine C0.initO (wd hw 18 rfl) (W19 hw) (W20 hw) rfl (Y43 1 rfl) (pc' := 4) rfl (by decide) (W := 0) (nb rfl) (by decide) ?_
  intro T1 C1
  refine C1.aL (Y43 2 rfl) rfl rfl ?_
  refine C1.virtual (W := 0) (wd hw 288 rfl) (wd hw 289 rfl) (fun _ q => notFace_of_selects (args := #[]) (mvT q (wd hw 291 rfl))) (wd hw 291 rfl) (wd hw 290 rfl) (wd hw 292 rfl) (W216 hw) (by decide) (rm_getValue l Z a0 EL G b t h C1.old B.2.2.1) (fun _ => rfl) rfl B.1 all0 (by decide) (by decide) (by decide) (by decide) (lenOf pd_28295b42 rfl) rfl (nb rfl) rfl (Y43 3 rfl) (pc' := 8) rfl ?_
  intro vm2 T2 h2 v2 C2 A2 M2 q2
  obtain ⟨rfl, rfl⟩ := q2
  refine C2.aS (Y43 4 rfl) rfl (l' := #[.val (.ref a), .val (.ref b), .val .null, .val (.ref t), .unset]) rfl (C2.aL (Y43 5 rfl) rfl rfl ?_)
  refine C2.virtual (W := 0) (wd hw 293 rfl) (wd hw 294 rfl) (fun _ q => own_nf (own_plain (y := ⟨"java/lang/AbstractStringBuilder", "ensureCapacityInternal", "(I)V"⟩) (a0 := #[]) (mvT q (W240 hw)) (mvT q (W238 hw)))) (wd hw 296 rfl) (wd hw 297 rfl) (wd hw 298 rfl) (W208 hw) (by decide) (rm_sbLen l Z a0 EL G b (Int32.ofNat cs.length) h C2.old B.1 B.2.1.2) (fun _ => rfl) rfl B.1 all0 (by decide) (by decide) (by decide) (by decide) (lenOf pd_282949 rfl) rfl (nb rfl) rfl (Y43 6 rfl) (pc' := 13) rfl ?_
  intro vm3 T3 h3 v3 C3 A3 M3 q3
  obtain ⟨rfl, rfl⟩ := q3
  refine C3.iSk (Y43 7 rfl) (l' := #[.val (.ref a), .val (.ref b), .val .null, .val (.ref t), .val (.int (Int32.ofNat cs.length))]) rfl (C3.aL (Y43 8 rfl) rfl rfl ?_)
  refine C3.virtual (W := 0) (wd hw 301 rfl) (wd hw 269 rfl) (fun _ q => notFace_of_selects (args := #[]) (mvT q (W271 hw))) (W271 hw) (wd hw 270 rfl) (wd hw 272 rfl) (W216 hw) (by decide) (rm_asbLat l Z a0 EL G b h C3.old B.2.1.1) (fun _ => rfl) rfl B.1 all0 (by decide) (by decide) (by decide) (by decide) (lenOf pd_28295a rfl) rfl (nb rfl) rfl (Y43 9 rfl) (pc' := 19) rfl ?_
  intro vm4 T4 h4 v4 C4 A4 M4 q4
  obtain ⟨rfl, rfl⟩ := q4
  refine C4.fN (Y43 10 rfl) (XT.i0_eq_f (by decide)) (C4.aL (Y43 11 rfl) rfl rfl (C4.ic (z := 0) (Y43 12 rfl) rfl ?_))
  have f6 := (A4.safe E0.lt (A3.safe E0.lt (A2.safe E0.lt (S0 a (by simp)))))
  refine C4.putF (v := (.int 0)) (wd hw 33 rfl) F1 E0 (Or.inr ⟨(W34 hw), rfl, rfl⟩) (W9 hw) (ty := .byte) (by decide) rfl rfl za f6 (Y43 13 rfl) (pc' := 27) rfl ?_
  intro T5 h5 C5 K5 A5 Wr5
  have f7 := F1.same Wr5
  have f8 := F0.other Wr5 (Or.inr (slot_ne (Or.inr (W36 hw)) (Or.inr (W34 hw)) (by decide) (t := (.array .byte)) (t' := .byte) (by decide) (by decide)))
  refine C5.aL (Y43 14 rfl) rfl rfl (C5.aL (Y43 15 rfl) rfl rfl (C5.ic (z := 0) (Y43 16 rfl) rfl (C5.iLk (Y43 17 rfl) rfl ?_)))
  have ne9 : t ≠ a := (Ne.symm (RoadKit.Exa.neArv E0 B.2.2.2.1 (W9 hw)))
  have f10 := (B.2.2.2.1.keep K5 (ninS ne9 nin0))
  refine C5.static (W := 1) (wd hw 302 rfl) (wd hw 131 rfl) (wd hw 133 rfl) (W132 hw) (by decide) (rm_copyR l Z a0 EL G t kb cs cap h5 C5.old f10 hlt B.le4 hl) (fun _ => rfl) rfl all0 (by decide) (by decide) (by decide) (by decide) (lenOf pd_285b424949295b42 rfl) rfl (nb rfl) rfl (Y43 18 rfl) (pc' := 35) rfl ?_
  intro vm11 T11 h11 v11 C11 A11 M11 q11
  obtain ⟨d11, kd11, rfl, K11, ge11, zg11, V11⟩ := q11
  have KK12 := (kT (kT (kR h [a]) K5 (allS m0 all0)) K11 all0)
  have f13 := (E0.keep KK12)
  have f14 := (f8.keep K11 nin0)
  have f16 := (f7.keep K11 nin0)
  have f17 := (A11.safe (lL E0.lt K5.1) (A5.safe E0.lt f6))
  refine C11.putF (v := (.ref d11)) (W35 hw) f14 f13 (Or.inr ⟨(W36 hw), rfl, rfl⟩) (W9 hw) (ty := (.array .byte)) (by decide) rfl rfl za f17 (Y43 19 rfl) (pc' := 38) rfl ?_
  intro T15 h15 C15 K15 A15 Wr15
  have f18 := f14.same Wr15
  have f19 := f16.other Wr15 (Or.inr (slot_ne (Or.inr (W34 hw)) (Or.inr (W36 hw)) (by decide) (t := .byte) (t' := (.array .byte)) (by decide) (by decide)))
  refine C15.go (pc' := 97) (Y43 20 rfl) (by decide) rfl ?_
  have ne20 : d11 ≠ a := (Ne.symm (nL (lL (lL E0.lt K5.1) ge11)))
  have f21 := (V11.keep K15 (ninS ne20 nin0))
  have KK22 := (kT (kT (kT (kR h [a]) K5 (allS m0 all0)) K11 all0) K15 (allS m0 all0))
  have f23 := (f13.keep K15)
  exact C15.retV (Y43 21 rfl) (by decide) (by decide) ⟨rfl, d11, kd11, KK22, (lT K5.1 ge11), zg11, ⟨f23, f19, f18, f21, B.2.2.2.2.1, by omega⟩⟩
theorem rm_strInitSB (G : Glob Z a0 EL) (a b t : Addr) (kb : ClassId) (cs : List Int32) (cap : Nat) (h : Heap) (O : Ext Z.heap h) (E0 : Exa Z h a "java/lang/String") (F0 : Fld Z h a "java/lang/String" "value" "[B" .null) (F1 : Fld Z h a "java/lang/String" "coder" "B" (.int 0)) (za : Z.heap.size ≤ a) (B : Sb Z h b t kb cs cap) (hlt : cs.length < cap) (hl : cs.length ≤ 16) :
    Met l Z EL true ⟨"java/lang/String", "<init>", "(Ljava/lang/StringBuilder;)V"⟩ jdk_42_method_53_code 2 none [] ⟨4, 1, 16, 65⟩ #[(.ref a), (.ref b)] h [a] (fun r h' => r = none ∧ ∃ (d : Addr) (kd : ClassId), Keep h h' [a] ∧ h.size ≤ d ∧ Z.heap.size ≤ d ∧ Str Z h' a d kd cs) := by
  have hw := G.hw
  obtain ⟨vo, So, hvo⟩ := G.fo
  refine Met.of (plainFor_of_name pn_537472696e67_6) G.ew O ?_
  intro p e s m below meth c T0 C0 S0
  refine Endw.eq (g' := mkF m 0 #[.val (.ref a), .val (.ref b)] []) rfl ?_
  refine C0.aL (Y44 0 rfl) rfl rfl (C0.aL (Y44 1 rfl) rfl rfl (C0.nu (Y44 2 rfl) ?_))
  refine C0.special (y := ⟨"java/lang/String", "<init>", "(Ljava/lang/AbstractStringBuilder;Ljava/lang/Void;)V"⟩) (W := 0) rfl (wd hw 285 rfl) (wd hw 286 rfl) (wd hw 287 rfl) (W10 hw) (by decide) (rm_strInitASB l Z a0 EL G a b t kb cs cap h C0.old E0 F0 F1 za B hlt hl) (fun _ => rfl) rfl (allS ⟨E0.lt, (S0 a (by simp))⟩ all0) (by decide) (by decide) (by decide) (by decide) (lenOf pd_24 rfl) rfl (nb rfl) rfl (Y44 3 rfl) (pc' := 6) rfl ?_
  intro vm1 T1 h1 v1 C1 A1 M1 q1
  obtain ⟨rfl, d1, kd1, K1, ge1, zg1, Z1⟩ := q1
  exact C1.retV (Y44 4 rfl) (by decide) (by decide) ⟨rfl, d1, kd1, K1, ge1, zg1, Z1⟩
theorem rm_toString (G : Glob Z a0 EL) (b t : Addr) (kb : ClassId) (cs : List Int32) (cap : Nat) (h : Heap) (O : Ext Z.heap h) (B : Sb Z h b t kb cs cap) (hlt : cs.length < cap) (hl : cs.length ≤ 16) :
    Met l Z EL true ⟨"java/lang/StringBuilder", "toString", "()Ljava/lang/String;"⟩ jdk_67_method_42_code 1 (some (.object "java/lang/String")) [] ⟨5, 2, 20, 79⟩ #[(.ref b)] h [] (fun r h' => ∃ (a d : Addr) (kd : ClassId), r = some (.ref a) ∧ Keep h h' [] ∧ h.size ≤ a ∧ h.size ≤ d ∧ Z.heap.size ≤ a ∧ Z.heap.size ≤ d ∧ Str Z h' a d kd cs) := by
  have hw := G.hw
  obtain ⟨vo, So, hvo⟩ := G.fo
  refine Met.of (plainFor_of_name pn_75696c646572_7) G.ew O ?_
  intro p e s m below meth c T0 C0 S0
  refine Endw.eq (g' := mkF m 0 #[.val (.ref b)] []) rfl ?_
  refine C0.new (wd hw 281 rfl) (W9 hw) (W10 hw) (Y45 0 rfl) (pc' := 3) rfl (by decide) (by decide) ?_
  intro T1 h1 a1 C1 K1 A1 ge1 zg1 E1 D1 S1
  refine C1.du (Y45 1 rfl) rfl (C1.aL (Y45 2 rfl) rfl rfl ?_)
  have f2 := (B.keep K1 nin0 nin0)
  have f3 : Fld Z h1 a1 "java/lang/String" "value" "[B" .null := D1 (Or.inr (W36 hw)) (ty := (.array .byte)) (by decide)
  have f4 : Fld Z h1 a1 "java/lang/String" "coder" "B" (.int 0) := D1 (Or.inr (W34 hw)) (ty := .byte) (by decide)
  refine C1.special (y := ⟨"java/lang/String", "<init>", "(Ljava/lang/StringBuilder;)V"⟩) (W := 1) rfl (wd hw 282 rfl) (wd hw 283 rfl) (wd hw 284 rfl) (W10 hw) (by decide) (rm_strInitSB l Z a0 EL G a1 b t kb cs cap h1 C1.old E1 f3 f4 zg1 f2 hlt hl) (fun _ => rfl) rfl (allS ⟨E1.lt, S1⟩ all0) (by decide) (by decide) (by decide) (by decide) (lenOf pd_40 rfl) rfl (nb rfl) rfl (Y45 3 rfl) (pc' := 8) rfl ?_
  intro vm5 T5 h5 v5 C5 A5 M5 q5
  obtain ⟨rfl, d5, kd5, K5, ge5, zg5, Z5⟩ := q5
  have KK6 := (kT (kT (kR h []) K1 all0) K5 (allS (Or.inr ge1) all0))
  exact C5.retA (t := (.object "java/lang/String")) rfl rfl rfl rfl (Y45 4 rfl) (by decide) (by decide) ⟨a1, d5, kd5, rfl, KK6, ge1, (lT K1.1 ge5), zg1, zg5, Z5⟩
theorem rm_canEnc (G : Glob Z a0 EL) (x : Int32) (hx : B8 x) (h : Heap) (O : Ext Z.heap h)  :
    Met l Z EL true ⟨"java/lang/StringLatin1", "canEncode", "(C)Z"⟩ jdk_43_method_3_code 1 (some .boolean) [] ⟨0, 0, 0, 0⟩ #[(.int x)] h [] (fun r h' => r = some (.int 1) ∧ h = h') := by
  obtain ⟨vo, So, hvo⟩ := G.fo
  refine Met.of (plainFor_of_name pn_4c6174696e31_8) G.ew O ?_
  intro p e s m below meth c T0 C0 S0
  refine Endw.eq (g' := mkF m 0 #[.val (.int x)] []) rfl ?_
  refine C0.iL (Y46 0 rfl) rfl (C0.si (z := 255) (Y46 1 rfl) rfl (C0.cN (Y46 2 rfl) (XT.ii_gt_f hx.2) (C0.ic (z := 1) (Y46 3 rfl) rfl (C0.go (pc' := 12) (Y46 4 rfl) (by decide) rfl ?_))))
  exact C0.retI (t := .boolean) rfl (by simp) rfl (Y46 5 rfl) (by decide) (by decide) ⟨rfl, rfl⟩
theorem rm_asbAppC (G : Glob Z a0 EL) (b tb : Addr) (kb : ClassId) (ps : List Int32) (cap : Nat) (x : Int32) (h : Heap) (O : Ext Z.heap h) (B : Sb Z h b tb kb ps cap) (hx : B8 x) (hle : ps.length + 1 ≤ cap) (zb : Z.heap.size ≤ b) (zt : Z.heap.size ≤ tb) :
    Met l Z EL true ⟨"java/lang/AbstractStringBuilder", "append", "(C)Ljava/lang/AbstractStringBuilder;"⟩ jdk_68_method_31_code 2 (some (.object "java/lang/AbstractStringBuilder")) [] ⟨1, 0, 0, 14⟩ #[(.ref b), (.int x)] h [tb] (fun r h' => r = some (.ref b) ∧ Keep h h' [b, tb] ∧ Sb Z h' b tb kb (ps ++ [x]) cap) := by
  have hw := G.hw
  obtain ⟨vo, So, hvo⟩ := G.fo
  refine Met.of (plainFor_of_name pn_75696c646572_3) G.ew O ?_
  intro p e s m below meth c T0 C0 S0
  refine Endw.eq (g' := mkF m 0 #[.val (.ref b), .val (.int x)] []) rfl ?_
  refine C0.aL (Y47 0 rfl) rfl rfl (C0.aL (Y47 1 rfl) rfl rfl ?_)
  refine C0.getF (W235 hw) B.2.1.2 (Y47 2 rfl) (pc' := 5) rfl ?_
  intro T1 C1
  refine C1.ic (z := 1) (Y47 3 rfl) rfl (C1.ad (z := ((Int32.ofNat ps.length) + (1 : Int32))) (Y47 4 rfl) rfl ?_)
  rw [show ((Int32.ofNat ps.length) + (1 : Int32)) = (Int32.ofNat (ps ++ [x]).length) from by rw [own_inc, List.length_append]; rfl]
  refine C1.priv (W := 0) (wd hw 237 rfl) (W238 hw) (own_plain (y := ⟨"java/lang/AbstractStringBuilder", "ensureCapacityInternal", "(I)V"⟩) (W240 hw) (W238 hw)) (wd hw 239 rfl) (wd hw 241 rfl) (W216 hw) (by decide) (rm_ensure l Z a0 EL G b tb kb ps cap (ps ++ [x]).length h C1.old B (by rw [List.length_append]; exact hle)) (fun _ => rfl) rfl B.1 all0 (by decide) (by decide) (by decide) (by decide) (lenOf pd_28492956 rfl) rfl (nb rfl) rfl (Y47 5 rfl) (pc' := 10) rfl ?_
  intro vm2 T2 h2 v2 C2 A2 M2 q2
  obtain ⟨rfl, rfl⟩ := q2
  refine C2.aL (Y47 6 rfl) rfl rfl ?_
  refine C2.virtual (W := 0) (wd hw 268 rfl) (wd hw 269 rfl) (fun _ q => notFace_of_selects (args := #[]) (mvT q (W271 hw))) (W271 hw) (wd hw 270 rfl) (wd hw 272 rfl) (W216 hw) (by decide) (rm_asbLat l Z a0 EL G b h C2.old B.2.1.1) (fun _ => rfl) rfl B.1 all0 (by decide) (by decide) (by decide) (by decide) (lenOf pd_28295a rfl) rfl (nb rfl) rfl (Y47 7 rfl) (pc' := 14) rfl ?_
  intro vm3 T3 h3 v3 C3 A3 M3 q3
  obtain ⟨rfl, rfl⟩ := q3
  refine C3.fN (Y47 8 rfl) (XT.i0_eq_f (by decide)) (C3.iL (Y47 9 rfl) rfl ?_)
  refine C3.static (W := 0) (wd hw 273 rfl) (wd hw 274 rfl) (wd hw 275 rfl) (W72 hw) (by decide) (rm_canEnc l Z a0 EL G x hx h C3.old) (fun _ => rfl) rfl all0 (by decide) (by decide) (by decide) (by decide) (lenOf pd_2843295a rfl) rfl (nb rfl) rfl (Y47 10 rfl) (pc' := 21) rfl ?_
  intro vm4 T4 h4 v4 C4 A4 M4 q4
  obtain ⟨rfl, rfl⟩ := q4
  refine C4.fN (Y47 11 rfl) (XT.i0_eq_f (by decide)) (C4.aL (Y47 12 rfl) rfl rfl ?_)
  refine C4.getF (W220 hw) B.2.2.1 (Y47 13 rfl) (pc' := 28) rfl ?_
  intro T5 C5
  refine C5.aL (Y47 14 rfl) rfl rfl (C5.du (Y47 15 rfl) rfl ?_)
  refine C5.getF (W235 hw) B.2.1.2 (Y47 16 rfl) (pc' := 33) rfl ?_
  intro T6 C6
  refine Endw.st (T' := T6) (g' := (mkF m 34 #[.val (.ref b), .val (.int x)] [(.int (Int32.ofNat ps.length)), (.ref b), (.int (Int32.ofNat ps.length)), (.ref tb)])) (fun _ k_ => XS.dupX1 C6.here C6.hx rfl (C6.dec (Y47 17 rfl)) rfl rfl rfl k_) ?_
  refine C6.ic (z := 1) (Y47 18 rfl) rfl (C6.ad (z := ((Int32.ofNat ps.length) + (1 : Int32))) (Y47 19 rfl) rfl ?_)
  rw [show ((Int32.ofNat ps.length) + (1 : Int32)) = (Int32.ofNat (ps ++ [x]).length) from by rw [own_inc, List.length_append]; rfl]
  refine C6.putF (v := (.int (Int32.ofNat (ps ++ [x]).length))) (W235 hw) B.2.1.2 B.1 (Or.inl (W236 hw)) (W207 hw) (ty := .int) (by decide) rfl rfl zb (Safe.exa C6.warm.alike B.1 (by decide) (by decide)) (Y47 20 rfl) (pc' := 39) rfl ?_
  intro T7 h7 C7 K7 A7 Wr7
  have f8 := B.2.1.2.same Wr7
  have f9 := B.2.1.1.other Wr7 (Or.inr (slot_ne (Or.inl (W223 hw)) (Or.inl (W236 hw)) (by decide) (t := .byte) (t' := .int) (by decide) (by decide)))
  have f10 := B.2.2.1.other Wr7 (Or.inr (slot_ne (Or.inl (W221 hw)) (Or.inl (W236 hw)) (by decide) (t := (.array .byte)) (t' := .int) (by decide) (by decide)))
  refine C7.iL (Y47 21 rfl) rfl ?_
  refine Endw.st (T' := T7) (g' := (mkF m 41 #[.val (.ref b), .val (.int x)] [(.int (x.toInt8.toInt32)), (.int (Int32.ofNat ps.length)), (.ref tb)])) (fun _ k_ => XS.i2b C7.here C7.hx rfl (C7.dec (Y47 22 rfl)) rfl k_) ?_
  have ne11 : tb ≠ b := (Ne.symm (RoadKit.Exa.neArv B.1 B.2.2.2.1 (W207 hw)))
  have f12 := (B.2.2.2.1.keep K7 (ninS ne11 nin0))
  have f14 := (A7.safe B.2.2.2.1.lt (A4.safe B.2.2.2.1.lt (A3.safe B.2.2.2.1.lt (A2.safe B.2.2.2.1.lt (S0 tb (by simp))))))
  refine C7.bastoreEnd (i := ps.length) (vs := (bys ps)) (x' := (x.toInt8.toInt32)) f12 (bys_len ps) (by omega) B.le4 own_nar_byte zt f14 (Y47 23 rfl) (pc' := 42) rfl ?_
  intro T13 h13 C13 K13 A13 V13
  refine C13.go (pc' := 75) (Y47 24 rfl) (by decide) rfl (C13.aL (Y47 25 rfl) rfl rfl ?_)
  have KK15 := (kT (kT (kR h [b, tb]) K7 (allS m0 all0)) K13 (allS m1 all0))
  have KK16 := (kT (kT (kR h [b, tb]) K7 (allS m0 all0)) K13 (allS m1 all0))
  have f17 := (B.1.keep KK16)
  have f18 := (f9.keep K13 (ninS (Ne.symm ne11) nin0))
  have f19 := (f8.keep K13 (ninS (Ne.symm ne11) nin0))
  have f20 := (f10.keep K13 (ninS (Ne.symm ne11) nin0))
  exact C13.retA (t := (.object "java/lang/AbstractStringBuilder")) rfl rfl rfl rfl (Y47 26 rfl) (by decide) (by decide) ⟨rfl, KK15, ⟨f17, ⟨f18, f19⟩, f20, (by rw [own_bys1]; exact V13), own_all_app B.2.2.2.2.1 (own_cS hx own_c0), (by rw [List.length_append]; exact hle), B.le4⟩⟩
theorem rm_sbAppC (G : Glob Z a0 EL) (b tb : Addr) (kb : ClassId) (ps : List Int32) (cap : Nat) (x : Int32) (h : Heap) (O : Ext Z.heap h) (B : Sb Z h b tb kb ps cap) (hx : B8 x) (hle : ps.length + 1 ≤ cap) (zb : Z.heap.size ≤ b) (zt : Z.heap.size ≤ tb) :
    Met l Z EL true ⟨"java/lang/StringBuilder", "append", "(C)Ljava/lang/StringBuilder;"⟩ jdk_67_method_14_code 2 (some (.object "java/lang/StringBuilder")) [] ⟨2, 0, 0, 27⟩ #[(.ref b), (.int x)] h [tb] (fun r h' => r = some (.ref b) ∧ Keep h h' [b, tb] ∧ Sb Z h' b tb kb (ps ++ [x]) cap) := by
  have hw := G.hw
  obtain ⟨vo, So, hvo⟩ := G.fo
  refine Met.of (plainFor_of_name pn_75696c646572_7) G.ew O ?_
  intro p e s m below meth c T0 C0 S0
  refine Endw.eq (g' := mkF m 0 #[.val (.ref b), .val (.int x)] []) rfl ?_
  refine C0.aL (Y48 0 rfl) rfl rfl (C0.iL (Y48 1 rfl) rfl ?_)
  refine C0.super (y := ⟨"java/lang/AbstractStringBuilder", "append", "(C)Ljava/lang/AbstractStringBuilder;"⟩) (W := 0) (a := b) (argsL := [(.int x)]) (rest := []) (by decide) (wd hw 264 rfl) (own_same (wd hw 266 rfl) (own_plain (y := ⟨"java/lang/AbstractStringBuilder", "ensureCapacityInternal", "(I)V"⟩) (W240 hw) (W238 hw)) (by decide)) (wd hw 265 rfl) (wd hw 231 rfl) (wd hw 267 rfl) (W216 hw) (rm_asbAppC l Z a0 EL G b tb kb ps cap x h C0.old B hx hle zb zt) (fun _ => rfl) rfl B.1 (allS ⟨B.2.2.2.1.lt, (S0 tb (by simp))⟩ all0) (by decide) (by decide) (by decide) (by decide) (lenOf pd_7 rfl) rfl (nb rfl) rfl (Y48 2 rfl) (pc' := 5) rfl ?_
  intro vm1 T1 h1 v1 C1 A1 M1 q1
  obtain ⟨rfl, K1, Z1⟩ := q1
  refine Endw.st (T' := T1) (g' := (mkF m 6 #[.val (.ref b), .val (.int x)] [])) (fun _ k_ => XS.pop C1.here C1.hx rfl (C1.dec (Y48 3 rfl)) rfl rfl k_) ?_
  refine C1.aL (Y48 4 rfl) rfl rfl ?_
  exact C1.retA (t := (.object "java/lang/StringBuilder")) rfl rfl rfl rfl (Y48 5 rfl) (by decide) (by decide) ⟨rfl, K1, Z1⟩
theorem rm_cts (G : Glob Z a0 EL) (x : Addr) (sc : List Int32) (au : Option (List Int32)) (pa : List Int32) (qu : Option (List Int32)) (h : Heap) (O : Ext Z.heap h) (M : Cmp Z h x (some sc) au pa qu none) (hl : (own_txt sc au pa qu none).length < 16) :
    Met l Z EL false ⟨"com/example/quadrille/quadrille/rdf/BaseIri$Components", "toString", "()Ljava/lang/String;"⟩ prog_4_method_3_code 2 (some (.object "java/lang/String")) [] ⟨6, 6, 52, 91⟩ #[(.ref x)] h [] (fun r h' => ∃ (z t : Addr) (k : ClassId), r = some (.ref z) ∧ Keep h h' [] ∧ h.size ≤ z ∧ Str Z h' z t k (own_txt sc au pa qu none)) := by
  have hw := G.hw
  obtain ⟨vo, So, hvo⟩ := G.fo
  refine Met.of (plainFor_of_name pn_6f6e656e7473_1) G.ew O ?_
  intro p e s m below meth c T0 C0 S0
  refine Endw.eq (g' := mkF m 0 #[.val (.ref x), .unset] []) rfl ?_
  obtain ⟨u0, u1, s2, t2, k2, u3, u4, E, F0, F1, F2, F3, F4, O0, O1, S2, O3, O4⟩ := id M
  obtain rfl : u4 = .null := OS.isNone O4
  obtain ⟨s0, t0, k0, rfl, S0_⟩ := OS.isSome O0
  rcases OS.cases O1 with ⟨rfl, rfl⟩ | ⟨s1, t1, k1, c1_, rfl, rfl, S1⟩
  · rcases OS.cases O3 with ⟨rfl, rfl⟩ | ⟨s3, t3, k3, c3_, rfl, rfl, S3⟩
    · simp only [own_txt, own_oa, own_oc, List.length_append, List.length_cons, List.length_nil] at hl
      refine C0.new (wd hw 206 rfl) (W207 hw) (W208 hw) (Y49 0 rfl) (pc' := 3) rfl (by decide) (by decide) ?_
      intro T1 h1 a1 C1 K1 A1 ge1 zg1 E1 D1 S1
      refine C1.du (Y49 1 rfl) rfl ?_
      have f2 : Fld Z h1 a1 "java/lang/AbstractStringBuilder" "value" "[B" .null := D1 (Or.inl (W221 hw)) (ty := (.array .byte)) (by decide)
      have f3 : Fld Z h1 a1 "java/lang/AbstractStringBuilder" "coder" "B" (.int 0) := D1 (Or.inl (W223 hw)) (ty := .byte) (by decide)
      have f4 : Fld Z h1 a1 "java/lang/AbstractStringBuilder" "count" "I" (.int 0) := D1 (Or.inl (W236 hw)) (ty := .int) (by decide)
      refine C1.special (y := ⟨"java/lang/StringBuilder", "<init>", "()V"⟩) (W := 1) rfl (wd hw 209 rfl) (wd hw 210 rfl) (wd hw 211 rfl) (W208 hw) (by decide) (rm_sbInit l Z a0 EL G a1 h1 C1.old E1 f2 f3 f4 zg1) (fun _ => rfl) rfl all0 (by decide) (by decide) (by decide) (by decide) (lenOf pd_282956 rfl) rfl (nb rfl) rfl (Y49 2 rfl) (pc' := 7) rfl ?_
      intro vm5 T5 h5 v5 C5 A5 M5 q5
      obtain ⟨rfl, t5, kb5, K5, ge5, zg5, Z5⟩ := q5
      refine C5.aS (Y49 3 rfl) rfl (l' := #[.val (.ref x), .val (.ref a1)]) rfl (C5.aL (Y49 4 rfl) rfl rfl ?_)
      have KK6 := (kT (kT (kR h []) K1 all0) K5 (allS (Or.inr ge1) all0))
      have f7 := (F0.keep KK6 nin0)
      refine C5.getF (W152 hw) f7 (Y49 5 rfl) (pc' := 12) rfl ?_
      intro T8 C8
      refine Endw.st (T' := T8) (g' := (mkF m 15 #[.val (.ref x), .val (.ref a1)] [])) (fun _ k_ => XS.ifnullNo C8.here C8.hx rfl (C8.dec (Y49 6 rfl)) rfl k_) ?_
      refine C8.aL (Y49 7 rfl) rfl rfl (C8.aL (Y49 8 rfl) rfl rfl ?_)
      refine C8.getF (W152 hw) f7 (Y49 9 rfl) (pc' := 20) rfl ?_
      intro T9 C9
      have f10 := (S0_.keep KK6 nin0 nin0)
      refine C9.virtual (W := 0) (W224 hw) (W225 hw) (fun _ q => notFace_of_selects (args := #[]) (mvT q (W227 hw))) (W227 hw) (W226 hw) (W228 hw) (W208 hw) (by decide) (rm_sbAppend l Z a0 EL G a1 t5 kb5 [] 16 s0 t0 k0 sc h5 C9.old Z5 f10 (by simp only [List.length_append, List.length_cons, List.length_nil]; omega) zg1 zg5) (fun _ => rfl) rfl Z5.1 (allS ⟨Z5.2.2.2.1.lt, (own_safe_new (M5 rfl) ge5)⟩ all0) (by decide) (by decide) (by decide) (by decide) (lenOf pd_32 rfl) rfl (nb rfl) rfl (Y49 10 rfl) (pc' := 23) rfl ?_
      intro vm11 T11 h11 v11 C11 A11 M11 q11
      obtain ⟨rfl, K11, Z11⟩ := q11
      refine C11.bi (z := 58) (Y49 11 rfl) rfl ?_
      have f13 := (A11.safe Z5.2.2.2.1.lt (own_safe_new (M5 rfl) ge5))
      refine C11.virtual (W := 0) (wd hw 259 rfl) (wd hw 260 rfl) (fun _ q => notFace_of_selects (args := #[]) (mvT q (W262 hw))) (W262 hw) (wd hw 261 rfl) (wd hw 263 rfl) (W208 hw) (by decide) (rm_sbAppC l Z a0 EL G a1 t5 kb5 ([] ++ sc) 16 (58 : Int32) h11 C11.old Z11 ⟨by decide, by decide⟩ (by simp only [List.length_append, List.length_cons, List.length_nil]; omega) zg1 zg5) (fun _ => rfl) rfl Z11.1 (allS ⟨(lL Z5.2.2.2.1.lt K11.1), f13⟩ all0) (by decide) (by decide) (by decide) (by decide) (lenOf pd_8 rfl) rfl (nb rfl) rfl (Y49 12 rfl) (pc' := 28) rfl ?_
      intro vm12 T12 h12 v12 C12 A12 M12 q12
      obtain ⟨rfl, K12, Z12⟩ := q12
      refine Endw.st (T' := T12) (g' := (mkF m 29 #[.val (.ref x), .val (.ref a1)] [])) (fun _ k_ => XS.pop C12.here C12.hx rfl (C12.dec (Y49 13 rfl)) rfl rfl k_) ?_
      refine C12.aL (Y49 14 rfl) rfl rfl ?_
      have KK14 := (kT (kT KK6 K11 (allS (Or.inr ge1) (allS (Or.inr (lT K1.1 ge5)) all0))) K12 (allS (Or.inr ge1) (allS (Or.inr (lT K1.1 ge5)) all0)))
      have f15 := (F1.keep KK14 nin0)
      refine C12.getF (W154 hw) f15 (Y49 15 rfl) (pc' := 33) rfl ?_
      intro T16 C16
      refine Endw.st (T' := T16) (g' := (mkF m 50 #[.val (.ref x), .val (.ref a1)] [])) (fun _ k_ => XS.ifnullYes C16.here C16.hx rfl (pc0 := 33) rfl (C16.dec (Y49 16 rfl)) rfl (by decide) rfl k_) ?_
      refine C16.aL (Y49 24 rfl) rfl rfl (C16.aL (Y49 25 rfl) rfl rfl ?_)
      have f17 := (F2.keep KK14 nin0)
      refine C16.getF (wd hw 156 rfl) f17 (Y49 26 rfl) (pc' := 55) rfl ?_
      intro T18 C18
      have f19 := (S2.keep KK14 nin0 nin0)
      have f21 := (A12.safe (lL Z5.2.2.2.1.lt K11.1) f13)
      refine C18.virtual (W := 0) (W224 hw) (W225 hw) (fun _ q => notFace_of_selects (args := #[]) (mvT q (W227 hw))) (W227 hw) (W226 hw) (W228 hw) (W208 hw) (by decide) (rm_sbAppend l Z a0 EL G a1 t5 kb5 (([] ++ sc) ++ [(58 : Int32)]) 16 s2 t2 k2 pa h12 C18.old Z12 f19 (by simp only [List.length_append, List.length_cons, List.length_nil]; omega) zg1 zg5) (fun _ => rfl) rfl Z12.1 (allS ⟨(lL Z5.2.2.2.1.lt (lT K11.1 K12.1)), f21⟩ all0) (by decide) (by decide) (by decide) (by decide) (lenOf pd_32 rfl) rfl (nb rfl) rfl (Y49 27 rfl) (pc' := 58) rfl ?_
      intro vm20 T20 h20 v20 C20 A20 M20 q20
      obtain ⟨rfl, K20, Z20⟩ := q20
      refine Endw.st (T' := T20) (g' := (mkF m 59 #[.val (.ref x), .val (.ref a1)] [])) (fun _ k_ => XS.pop C20.here C20.hx rfl (C20.dec (Y49 28 rfl)) rfl rfl k_) ?_
      refine C20.aL (Y49 29 rfl) rfl rfl ?_
      have KK22 := (kT KK14 K20 (allS (Or.inr ge1) (allS (Or.inr (lT K1.1 ge5)) all0)))
      have f23 := (F3.keep KK22 nin0)
      refine C20.getF (W158 hw) f23 (Y49 30 rfl) (pc' := 63) rfl ?_
      intro T24 C24
      refine Endw.st (T' := T24) (g' := (mkF m 80 #[.val (.ref x), .val (.ref a1)] [])) (fun _ k_ => XS.ifnullYes C24.here C24.hx rfl (pc0 := 63) rfl (C24.dec (Y49 31 rfl)) rfl (by decide) rfl k_) ?_
      refine C24.aL (Y49 39 rfl) rfl rfl ?_
      have f25 := (F4.keep KK22 nin0)
      refine C24.getF (wd hw 160 rfl) f25 (Y49 40 rfl) (pc' := 84) rfl ?_
      intro T26 C26
      refine Endw.st (T' := T26) (g' := (mkF m 101 #[.val (.ref x), .val (.ref a1)] [])) (fun _ k_ => XS.ifnullYes C26.here C26.hx rfl (pc0 := 84) rfl (C26.dec (Y49 41 rfl)) rfl (by decide) rfl k_) ?_
      refine C26.aL (Y49 42 rfl) rfl rfl ?_
      refine C26.virtual (W := 0) (wd hw 276 rfl) (wd hw 277 rfl) (fun _ q => notFace_of_selects (args := #[]) (mvT q (W279 hw))) (W279 hw) (wd hw 278 rfl) (wd hw 280 rfl) (W208 hw) (by decide) (rm_toString l Z a0 EL G a1 t5 kb5 ((([] ++ sc) ++ [(58 : Int32)]) ++ pa) 16 h20 C26.old Z20 (by simp only [List.length_append, List.length_cons, List.length_nil]; omega) (by simp only [List.length_append, List.length_cons, List.length_nil]; omega)) (fun _ => rfl) rfl Z20.1 all0 (by decide) (by decide) (by decide) (by decide) (lenOf pd_3 rfl) rfl (nb rfl) rfl (Y49 43 rfl) (pc' := 105) rfl ?_
      intro vm27 T27 h27 v27 C27 A27 M27 q27
      obtain ⟨a27, d27, kd27, rfl, K27, ge27, gd27, zg27, zd27, Z27⟩ := q27
      have KK28 := (kT KK22 K27 all0)
      exact C27.retA (t := (.object "java/lang/String")) rfl rfl rfl rfl (Y49 44 rfl) (by decide) (by decide) ⟨a27, d27, kd27, rfl, KK28, (lT KK22.1 ge27), (by simpa [own_txt, own_oa, own_oc] using Z27)⟩
    · simp only [own_txt, own_oa, own_oc, List.length_append, List.length_cons, List.length_nil] at hl
      refine C0.new (wd hw 206 rfl) (W207 hw) (W208 hw) (Y49 0 rfl) (pc' := 3) rfl (by decide) (by decide) ?_
      intro T29 h29 a29 C29 K29 A29 ge29 zg29 E29 D29 S29
      refine C29.du (Y49 1 rfl) rfl ?_
      have f30 : Fld Z h29 a29 "java/lang/AbstractStringBuilder" "value" "[B" .null := D29 (Or.inl (W221 hw)) (ty := (.array .byte)) (by decide)
      have f31 : Fld Z h29 a29 "java/lang/AbstractStringBuilder" "coder" "B" (.int 0) := D29 (Or.inl (W223 hw)) (ty := .byte) (by decide)
      have f32 : Fld Z h29 a29 "java/lang/AbstractStringBuilder" "count" "I" (.int 0) := D29 (Or.inl (W236 hw)) (ty := .int) (by decide)
      refine C29.special (y := ⟨"java/lang/StringBuilder", "<init>", "()V"⟩) (W := 1) rfl (wd hw 209 rfl) (wd hw 210 rfl) (wd hw 211 rfl) (W208 hw) (by decide) (rm_sbInit l Z a0 EL G a29 h29 C29.old E29 f30 f31 f32 zg29) (fun _ => rfl) rfl all0 (by decide) (by decide) (by decide) (by decide) (lenOf pd_282956 rfl) rfl (nb rfl) rfl (Y49 2 rfl) (pc' := 7) rfl ?_
      intro vm33 T33 h33 v33 C33 A33 M33 q33
      obtain ⟨rfl, t33, kb33, K33, ge33, zg33, Z33⟩ := q33
      refine C33.aS (Y49 3 rfl) rfl (l' := #[.val (.ref x), .val (.ref a29)]) rfl (C33.aL (Y49 4 rfl) rfl rfl ?_)
      have KK34 := (kT (kT (kR h []) K29 all0) K33 (allS (Or.inr ge29) all0))
      have f35 := (F0.keep KK34 nin0)
      refine C33.getF (W152 hw) f35 (Y49 5 rfl) (pc' := 12) rfl ?_
      intro T36 C36
      refine Endw.st (T' := T36) (g' := (mkF m 15 #[.val (.ref x), .val (.ref a29)] [])) (fun _ k_ => XS.ifnullNo C36.here C36.hx rfl (C36.dec (Y49 6 rfl)) rfl k_) ?_
      refine C36.aL (Y49 7 rfl) rfl rfl (C36.aL (Y49 8 rfl) rfl rfl ?_)
      refine C36.getF (W152 hw) f35 (Y49 9 rfl) (pc' := 20) rfl ?_
      intro T37 C37
      have f38 := (S0_.keep KK34 nin0 nin0)
      refine C37.virtual (W := 0) (W224 hw) (W225 hw) (fun _ q => notFace_of_selects (args := #[]) (mvT q (W227 hw))) (W227 hw) (W226 hw) (W228 hw) (W208 hw) (by decide) (rm_sbAppend l Z a0 EL G a29 t33 kb33 [] 16 s0 t0 k0 sc h33 C37.old Z33 f38 (by simp only [List.length_append, List.length_cons, List.length_nil]; omega) zg29 zg33) (fun _ => rfl) rfl Z33.1 (allS ⟨Z33.2.2.2.1.lt, (own_safe_new (M33 rfl) ge33)⟩ all0) (by decide) (by decide) (by decide) (by decide) (lenOf pd_32 rfl) rfl (nb rfl) rfl (Y49 10 rfl) (pc' := 23) rfl ?_
      intro vm39 T39 h39 v39 C39 A39 M39 q39
      obtain ⟨rfl, K39, Z39⟩ := q39
      refine C39.bi (z := 58) (Y49 11 rfl) rfl ?_
      have f41 := (A39.safe Z33.2.2.2.1.lt (own_safe_new (M33 rfl) ge33))
      refine C39.virtual (W := 0) (wd hw 259 rfl) (wd hw 260 rfl) (fun _ q => notFace_of_selects (args := #[]) (mvT q (W262 hw))) (W262 hw) (wd hw 261 rfl) (wd hw 263 rfl) (W208 hw) (by decide) (rm_sbAppC l Z a0 EL G a29 t33 kb33 ([] ++ sc) 16 (58 : Int32) h39 C39.old Z39 ⟨by decide, by decide⟩ (by simp only [List.length_append, List.length_cons, List.length_nil]; omega) zg29 zg33) (fun _ => rfl) rfl Z39.1 (allS ⟨(lL Z33.2.2.2.1.lt K39.1), f41⟩ all0) (by decide) (by decide) (by decide) (by decide) (lenOf pd_8 rfl) rfl (nb rfl) rfl (Y49 12 rfl) (pc' := 28) rfl ?_
      intro vm40 T40 h40 v40 C40 A40 M40 q40
      obtain ⟨rfl, K40, Z40⟩ := q40
      refine Endw.st (T' := T40) (g' := (mkF m 29 #[.val (.ref x), .val (.ref a29)] [])) (fun _ k_ => XS.pop C40.here C40.hx rfl (C40.dec (Y49 13 rfl)) rfl rfl k_) ?_
      refine C40.aL (Y49 14 rfl) rfl rfl ?_
      have KK42 := (kT (kT KK34 K39 (allS (Or.inr ge29) (allS (Or.inr (lT K29.1 ge33)) all0))) K40 (allS (Or.inr ge29) (allS (Or.inr (lT K29.1 ge33)) all0)))
      have f43 := (F1.keep KK42 nin0)
      refine C40.getF (W154 hw) f43 (Y49 15 rfl) (pc' := 33) rfl ?_
      intro T44 C44
      refine Endw.st (T' := T44) (g' := (mkF m 50 #[.val (.ref x), .val (.ref a29)] [])) (fun _ k_ => XS.ifnullYes C44.here C44.hx rfl (pc0 := 33) rfl (C44.dec (Y49 16 rfl)) rfl (by decide) rfl k_) ?_
      refine C44.aL (Y49 24 rfl) rfl rfl (C44.aL (Y49 25 rfl) rfl rfl ?_)
      have f45 := (F2.keep KK42 nin0)
      refine C44.getF (wd hw 156 rfl) f45 (Y49 26 rfl) (pc' := 55) rfl ?_
      intro T46 C46
      have f47 := (S2.keep KK42 nin0 nin0)
      have f49 := (A40.safe (lL Z33.2.2.2.1.lt K39.1) f41)
      refine C46.virtual (W := 0) (W224 hw) (W225 hw) (fun _ q => notFace_of_selects (args := #[]) (mvT q (W227 hw))) (W227 hw) (W226 hw) (W228 hw) (W208 hw) (by decide) (rm_sbAppend l Z a0 EL G a29 t33 kb33 (([] ++ sc) ++ [(58 : Int32)]) 16 s2 t2 k2 pa h40 C46.old Z40 f47 (by simp only [List.length_append, List.length_cons, List.length_nil]; omega) zg29 zg33) (fun _ => rfl) rfl Z40.1 (allS ⟨(lL Z33.2.2.2.1.lt (lT K39.1 K40.1)), f49⟩ all0) (by decide) (by decide) (by decide) (by decide) (lenOf pd_32 rfl) rfl (nb rfl) rfl (Y49 27 rfl) (pc' := 58) rfl ?_
      intro vm48 T48 h48 v48 C48 A48 M48 q48
      obtain ⟨rfl, K48, Z48⟩ := q48
      refine Endw.st (T' := T48) (g' := (mkF m 59 #[.val (.ref x), .val (.ref a29)] [])) (fun _ k_ => XS.pop C48.here C48.hx rfl (C48.dec (Y49 28 rfl)) rfl rfl k_) ?_
      refine C48.aL (Y49 29 rfl) rfl rfl ?_
      have KK50 := (kT KK42 K48 (allS (Or.inr ge29) (allS (Or.inr (lT K29.1 ge33)) all0)))
      have f51 := (F3.keep KK50 nin0)
      refine C48.getF (W158 hw) f51 (Y49 30 rfl) (pc' := 63) rfl ?_
      intro T52 C52
      refine Endw.st (T' := T52) (g' := (mkF m 66 #[.val (.ref x), .val (.ref a29)] [])) (fun _ k_ => XS.ifnullNo C52.here C52.hx rfl (C52.dec (Y49 31 rfl)) rfl k_) ?_
      refine C52.aL (Y49 32 rfl) rfl rfl (C52.bi (z := 63) (Y49 33 rfl) rfl ?_)
      have f54 := (A48.safe (lL Z33.2.2.2.1.lt (lT K39.1 K40.1)) f49)
      refine C52.virtual (W := 0) (wd hw 259 rfl) (wd hw 260 rfl) (fun _ q => notFace_of_selects (args := #[]) (mvT q (W262 hw))) (W262 hw) (wd hw 261 rfl) (wd hw 263 rfl) (W208 hw) (by decide) (rm_sbAppC l Z a0 EL G a29 t33 kb33 ((([] ++ sc) ++ [(58 : Int32)]) ++ pa) 16 (63 : Int32) h48 C52.old Z48 ⟨by decide, by decide⟩ (by simp only [List.length_append, List.length_cons, List.length_nil]; omega) zg29 zg33) (fun _ => rfl) rfl Z48.1 (allS ⟨(lL Z33.2.2.2.1.lt (lT K39.1 (lT K40.1 K48.1))), f54⟩ all0) (by decide) (by decide) (by decide) (by decide) (lenOf pd_8 rfl) rfl (nb rfl) rfl (Y49 34 rfl) (pc' := 72) rfl ?_
      intro vm53 T53 h53 v53 C53 A53 M53 q53
      obtain ⟨rfl, K53, Z53⟩ := q53
      refine C53.aL (Y49 35 rfl) rfl rfl ?_
      have ne55 : x ≠ t33 := (nL (lL (lL E.lt K29.1) ge33))
      have ne56 : x ≠ a29 := (nL (lL E.lt ge29))
      have f57 := (f51.keep K53 (ninS ne56 (ninS ne55 nin0)))
      refine C53.getF (W158 hw) f57 (Y49 36 rfl) (pc' := 76) rfl ?_
      intro T58 C58
      have KK59 := (kT KK50 K53 (allS (Or.inr ge29) (allS (Or.inr (lT K29.1 ge33)) all0)))
      have f60 := (S3.keep KK59 nin0 nin0)
      have f62 := (A53.safe (lL Z33.2.2.2.1.lt (lT K39.1 (lT K40.1 K48.1))) f54)
      refine C58.virtual (W := 0) (W224 hw) (W225 hw) (fun _ q => notFace_of_selects (args := #[]) (mvT q (W227 hw))) (W227 hw) (W226 hw) (W228 hw) (W208 hw) (by decide) (rm_sbAppend l Z a0 EL G a29 t33 kb33 (((([] ++ sc) ++ [(58 : Int32)]) ++ pa) ++ [(63 : Int32)]) 16 s3 t3 k3 c3_ h53 C58.old Z53 f60 (by simp only [List.length_append, List.length_cons, List.length_nil]; omega) zg29 zg33) (fun _ => rfl) rfl Z53.1 (allS ⟨(lL Z33.2.2.2.1.lt (lT K39.1 (lT K40.1 (lT K48.1 K53.1)))), f62⟩ all0) (by decide) (by decide) (by decide) (by decide) (lenOf pd_32 rfl) rfl (nb rfl) rfl (Y49 37 rfl) (pc' := 79) rfl ?_
      intro vm61 T61 h61 v61 C61 A61 M61 q61
      obtain ⟨rfl, K61, Z61⟩ := q61
      refine Endw.st (T' := T61) (g' := (mkF m 80 #[.val (.ref x), .val (.ref a29)] [])) (fun _ k_ => XS.pop C61.here C61.hx rfl (C61.dec (Y49 38 rfl)) rfl rfl k_) ?_
      refine C61.aL (Y49 39 rfl) rfl rfl ?_
      have KK63 := (kT KK59 K61 (allS (Or.inr ge29) (allS (Or.inr (lT K29.1 ge33)) all0)))
      have f64 := (F4.keep KK63 nin0)
      refine C61.getF (wd hw 160 rfl) f64 (Y49 40 rfl) (pc' := 84) rfl ?_
      intro T65 C65
      refine Endw.st (T' := T65) (g' := (mkF m 101 #[.val (.ref x), .val (.ref a29)] [])) (fun _ k_ => XS.ifnullYes C65.here C65.hx rfl (pc0 := 84) rfl (C65.dec (Y49 41 rfl)) rfl (by decide) rfl k_) ?_
      refine C65.aL (Y49 42 rfl) rfl rfl ?_
      refine C65.virtual (W := 0) (wd hw 276 rfl) (wd hw 277 rfl) (fun _ q => notFace_of_selects (args := #[]) (mvT q (W279 hw))) (W279 hw) (wd hw 278 rfl) (wd hw 280 rfl) (W208 hw) (by decide) (rm_toString l Z a0 EL G a29 t33 kb33 ((((([] ++ sc) ++ [(58 : Int32)]) ++ pa) ++ [(63 : Int32)]) ++ c3_) 16 h61 C65.old Z61 (by simp only [List.length_append, List.length_cons, List.length_nil]; omega) (by simp only [List.length_append, List.length_cons, List.length_nil]; omega)) (fun _ => rfl) rfl Z61.1 all0 (by decide) (by decide) (by decide) (by decide) (lenOf pd_3 rfl) rfl (nb rfl) rfl (Y49 43 rfl) (pc' := 105) rfl ?_
      intro vm66 T66 h66 v66 C66 A66 M66 q66
      obtain ⟨a66, d66, kd66, rfl, K66, ge66, gd66, zg66, zd66, Z66⟩ := q66
      have KK67 := (kT KK63 K66 all0)
      exact C66.retA (t := (.object "java/lang/String")) rfl rfl rfl rfl (Y49 44 rfl) (by decide) (by decide) ⟨a66, d66, kd66, rfl, KK67, (lT KK63.1 ge66), (by simpa [own_txt, own_oa, own_oc] using Z66)⟩
  · rcases OS.cases O3 with ⟨rfl, rfl⟩ | ⟨s3, t3, k3, c3_, rfl, rfl, S3⟩
    · simp only [own_txt, own_oa, own_oc, List.length_append, List.length_cons, List.length_nil] at hl
      refine C0.new (wd hw 206 rfl) (W207 hw) (W208 hw) (Y49 0 rfl) (pc' := 3) rfl (by decide) (by decide) ?_
      intro T68 h68 a68 C68 K68 A68 ge68 zg68 E68 D68 S68
      refine C68.du (Y49 1 rfl) rfl ?_
      have f69 : Fld Z h68 a68 "java/lang/AbstractStringBuilder" "value" "[B" .null := D68 (Or.inl (W221 hw)) (ty := (.array .byte)) (by decide)
      have f70 : Fld Z h68 a68 "java/lang/AbstractStringBuilder" "coder" "B" (.int 0) := D68 (Or.inl (W223 hw)) (ty := .byte) (by decide)
      have f71 : Fld Z h68 a68 "java/lang/AbstractStringBuilder" "count" "I" (.int 0) := D68 (Or.inl (W236 hw)) (ty := .int) (by decide)
      refine C68.special (y := ⟨"java/lang/StringBuilder", "<init>", "()V"⟩) (W := 1) rfl (wd hw 209 rfl) (wd hw 210 rfl) (wd hw 211 rfl) (W208 hw) (by decide) (rm_sbInit l Z a0 EL G a68 h68 C68.old E68 f69 f70 f71 zg68) (fun _ => rfl) rfl all0 (by decide) (by decide) (by decide) (by decide) (lenOf pd_282956 rfl) rfl (nb rfl) rfl (Y49 2 rfl) (pc' := 7) rfl ?_
      intro vm72 T72 h72 v72 C72 A72 M72 q72
      obtain ⟨rfl, t72, kb72, K72, ge72, zg72, Z72⟩ := q72
      refine C72.aS (Y49 3 rfl) rfl (l' := #[.val (.ref x), .val (.ref a68)]) rfl (C72.aL (Y49 4 rfl) rfl rfl ?_)
      have KK73 := (kT (kT (kR h []) K68 all0) K72 (allS (Or.inr ge68) all0))
      have f74 := (F0.keep KK73 nin0)
      refine C72.getF (W152 hw) f74 (Y49 5 rfl) (pc' := 12) rfl ?_
      intro T75 C75
      refine Endw.st (T' := T75) (g' := (mkF m 15 #[.val (.ref x), .val (.ref a68)] [])) (fun _ k_ => XS.ifnullNo C75.here C75.hx rfl (C75.dec (Y49 6 rfl)) rfl k_) ?_
      refine C75.aL (Y49 7 rfl) rfl rfl (C75.aL (Y49 8 rfl) rfl rfl ?_)
      refine C75.getF (W152 hw) f74 (Y49 9 rfl) (pc' := 20) rfl ?_
      intro T76 C76
      have f77 := (S0_.keep KK73 nin0 nin0)
      refine C76.virtual (W := 0) (W224 hw) (W225 hw) (fun _ q => notFace_of_selects (args := #[]) (mvT q (W227 hw))) (W227 hw) (W226 hw) (W228 hw) (W208 hw) (by decide) (rm_sbAppend l Z a0 EL G a68 t72 kb72 [] 16 s0 t0 k0 sc h72 C76.old Z72 f77 (by simp only [List.length_append, List.length_cons, List.length_nil]; omega) zg68 zg72) (fun _ => rfl) rfl Z72.1 (allS ⟨Z72.2.2.2.1.lt, (own_safe_new (M72 rfl) ge72)⟩ all0) (by decide) (by decide) (by decide) (by decide) (lenOf pd_32 rfl) rfl (nb rfl) rfl (Y49 10 rfl) (pc' := 23) rfl ?_
      intro vm78 T78 h78 v78 C78 A78 M78 q78
      obtain ⟨rfl, K78, Z78⟩ := q78
      refine C78.bi (z := 58) (Y49 11 rfl) rfl ?_
      have f80 := (A78.safe Z72.2.2.2.1.lt (own_safe_new (M72 rfl) ge72))
      refine C78.virtual (W := 0) (wd hw 259 rfl) (wd hw 260 rfl) (fun _ q => notFace_of_selects (args := #[]) (mvT q (W262 hw))) (W262 hw) (wd hw 261 rfl) (wd hw 263 rfl) (W208 hw) (by decide) (rm_sbAppC l Z a0 EL G a68 t72 kb72 ([] ++ sc) 16 (58 : Int32) h78 C78.old Z78 ⟨by decide, by decide⟩ (by simp only [List.length_append, List.length_cons, List.length_nil]; omega) zg68 zg72) (fun _ => rfl) rfl Z78.1 (allS ⟨(lL Z72.2.2.2.1.lt K78.1), f80⟩ all0) (by decide) (by decide) (by decide) (by decide) (lenOf pd_8 rfl) rfl (nb rfl) rfl (Y49 12 rfl) (pc' := 28) rfl ?_
      intro vm79 T79 h79 v79 C79 A79 M79 q79
      obtain ⟨rfl, K79, Z79⟩ := q79
      refine Endw.st (T' := T79) (g' := (mkF m 29 #[.val (.ref x), .val (.ref a68)] [])) (fun _ k_ => XS.pop C79.here C79.hx rfl (C79.dec (Y49 13 rfl)) rfl rfl k_) ?_
      refine C79.aL (Y49 14 rfl) rfl rfl ?_
      have KK81 := (kT (kT KK73 K78 (allS (Or.inr ge68) (allS (Or.inr (lT K68.1 ge72)) all0))) K79 (allS (Or.inr ge68) (allS (Or.inr (lT K68.1 ge72)) all0)))
      have f82 := (F1.keep KK81 nin0)
      refine C79.getF (W154 hw) f82 (Y49 15 rfl) (pc' := 33) rfl ?_
      intro T83 C83
      refine Endw.st (T' := T83) (g' := (mkF m 36 #[.val (.ref x), .val (.ref a68)] [])) (fun _ k_ => XS.ifnullNo C83.here C83.hx rfl (C83.dec (Y49 16 rfl)) rfl k_) ?_
      refine C83.aL (Y49 17 rfl) rfl rfl ?_
      refine C83.ldcC (N := 8) (vs := (bys [(47 : Int32), (47 : Int32)])) (z := (2 : Int32)) (W107 hw) G.wS (by rw [G.el]; decide) ⟨by decide, by decide⟩ (by decide) (by decide) (by decide) (by decide) (by decide) (by decide) (Y49 18 rfl) (pc' := 39) rfl rfl ?_
      intro vm84 T84 h84 a84 b84 kA84 C84 K84 A84 E84 F84 f84 V84 r84
      have f86 := (A84.safe (lL Z72.2.2.2.1.lt (lT K78.1 K79.1)) (A79.safe (lL Z72.2.2.2.1.lt K78.1) f80))
      have Z84 : Str Z h84 a84 b84 kA84 [(47 : Int32), (47 : Int32)] := ⟨E84, F84, f84, V84, (own_cS ⟨by decide, by decide⟩ (own_cS ⟨by decide, by decide⟩ own_c0)), by decide⟩
      have f87 := (Z79.keep K84 nin0 nin0)
      have f89 := (Z79.1.keep K84)
      refine C84.virtual (W := 0) (W224 hw) (W225 hw) (fun _ q => notFace_of_selects (args := #[]) (mvT q (W227 hw))) (W227 hw) (W226 hw) (W228 hw) (W208 hw) (by decide) (rm_sbAppend l Z a0 EL G a68 t72 kb72 (([] ++ sc) ++ [(58 : Int32)]) 16 a84 b84 kA84 [(47 : Int32), (47 : Int32)] h84 C84.old f87 Z84 (by simp only [List.length_append, List.length_cons, List.length_nil]; omega) zg68 zg72) (fun _ => rfl) rfl f89 (allS ⟨(lL Z72.2.2.2.1.lt (lT K78.1 (lT K79.1 K84.1))), f86⟩ all0) (by decide) (by decide) (by decide) (by decide) (lenOf pd_32 rfl) rfl (nb rfl) rfl (Y49 19 rfl) (pc' := 42) rfl ?_
      intro vm88 T88 h88 v88 C88 A88 M88 q88
      obtain ⟨rfl, K88, Z88⟩ := q88
      refine C88.aL (Y49 20 rfl) rfl rfl ?_
      have KK90 := (kT (kT (kR h79 [a68, t72]) K84 all0) K88 (allS m0 (allS m1 all0)))
      have ne91 : x ≠ t72 := (nL (lL (lL E.lt K68.1) ge72))
      have ne92 : x ≠ a68 := (nL (lL E.lt ge68))
      have f93 := (f82.keep KK90 (ninS ne92 (ninS ne91 nin0)))
      refine C88.getF (W154 hw) f93 (Y49 21 rfl) (pc' := 46) rfl ?_
      intro T94 C94
      have KK95 := (kT (kT KK81 K84 all0) K88 (allS (Or.inr ge68) (allS (Or.inr (lT K68.1 ge72)) all0)))
      have f96 := (S1.keep KK95 nin0 nin0)
      have f98 := (A88.safe (lL Z72.2.2.2.1.lt (lT K78.1 (lT K79.1 K84.1))) f86)
      refine C94.virtual (W := 0) (W224 hw) (W225 hw) (fun _ q => notFace_of_selects (args := #[]) (mvT q (W227 hw))) (W227 hw) (W226 hw) (W228 hw) (W208 hw) (by decide) (rm_sbAppend l Z a0 EL G a68 t72 kb72 ((([] ++ sc) ++ [(58 : Int32)]) ++ [(47 : Int32), (47 : Int32)]) 16 s1 t1 k1 c1_ h88 C94.old Z88 f96 (by simp only [List.length_append, List.length_cons, List.length_nil]; omega) zg68 zg72) (fun _ => rfl) rfl Z88.1 (allS ⟨(lL Z72.2.2.2.1.lt (lT K78.1 (lT K79.1 (lT K84.1 K88.1)))), f98⟩ all0) (by decide) (by decide) (by decide) (by decide) (lenOf pd_32 rfl) rfl (nb rfl) rfl (Y49 22 rfl) (pc' := 49) rfl ?_
      intro vm97 T97 h97 v97 C97 A97 M97 q97
      obtain ⟨rfl, K97, Z97⟩ := q97
      refine Endw.st (T' := T97) (g' := (mkF m 50 #[.val (.ref x), .val (.ref a68)] [])) (fun _ k_ => XS.pop C97.here C97.hx rfl (C97.dec (Y49 23 rfl)) rfl rfl k_) ?_
      refine C97.aL (Y49 24 rfl) rfl rfl (C97.aL (Y49 25 rfl) rfl rfl ?_)
      have KK99 := (kT KK95 K97 (allS (Or.inr ge68) (allS (Or.inr (lT K68.1 ge72)) all0)))
      have f100 := (F2.keep KK99 nin0)
      refine C97.getF (wd hw 156 rfl) f100 (Y49 26 rfl) (pc' := 55) rfl ?_
      intro T101 C101
      have f102 := (S2.keep KK99 nin0 nin0)
      have f104 := (A97.safe (lL Z72.2.2.2.1.lt (lT K78.1 (lT K79.1 (lT K84.1 K88.1)))) f98)
      refine C101.virtual (W := 0) (W224 hw) (W225 hw) (fun _ q => notFace_of_selects (args := #[]) (mvT q (W227 hw))) (W227 hw) (W226 hw) (W228 hw) (W208 hw) (by decide) (rm_sbAppend l Z a0 EL G a68 t72 kb72 (((([] ++ sc) ++ [(58 : Int32)]) ++ [(47 : Int32), (47 : Int32)]) ++ c1_) 16 s2 t2 k2 pa h97 C101.old Z97 f102 (by simp only [List.length_append, List.length_cons, List.length_nil]; omega) zg68 zg72) (fun _ => rfl) rfl Z97.1 (allS ⟨(lL Z72.2.2.2.1.lt (lT K78.1 (lT K79.1 (lT K84.1 (lT K88.1 K97.1))))), f104⟩ all0) (by decide) (by decide) (by decide) (by decide) (lenOf pd_32 rfl) rfl (nb rfl) rfl (Y49 27 rfl) (pc' := 58) rfl ?_
      intro vm103 T103 h103 v103 C103 A103 M103 q103
      obtain ⟨rfl, K103, Z103⟩ := q103
      refine Endw.st (T' := T103) (g' := (mkF m 59 #[.val (.ref x), .val (.ref a68)] [])) (fun _ k_ => XS.pop C103.here C103.hx rfl (C103.dec (Y49 28 rfl)) rfl rfl k_) ?_
      refine C103.aL (Y49 29 rfl) rfl rfl ?_
      have KK105 := (kT KK99 K103 (allS (Or.inr ge68) (allS (Or.inr (lT K68.1 ge72)) all0)))
      have f106 := (F3.keep KK105 nin0)
      refine C103.getF (W158 hw) f106 (Y49 30 rfl) (pc' := 63) rfl ?_
      intro T107 C107
      refine Endw.st (T' := T107) (g' := (mkF m 80 #[.val (.ref x), .val (.ref a68)] [])) (fun _ k_ => XS.ifnullYes C107.here C107.hx rfl (pc0 := 63) rfl (C107.dec (Y49 31 rfl)) rfl (by decide) rfl k_) ?_
      refine C107.aL (Y49 39 rfl) rfl rfl ?_
      have f108 := (F4.keep KK105 nin0)
      refine C107.getF (wd hw 160 rfl) f108 (Y49 40 rfl) (pc' := 84) rfl ?_
      intro T109 C109
      refine Endw.st (T' := T109) (g' := (mkF m 101 #[.val (.ref x), .val (.ref a68)] [])) (fun _ k_ => XS.ifnullYes C109.here C109.hx rfl (pc0 := 84) rfl (C109.dec (Y49 41 rfl)) rfl (by decide) rfl k_) ?_
      refine C109.aL (Y49 42 rfl) rfl rfl ?_
      refine C109.virtual (W := 0) (wd hw 276 rfl) (wd hw 277 rfl) (fun _ q => notFace_of_selects (args := #[]) (mvT q (W279 hw))) (W279 hw) (wd hw 278 rfl) (wd hw 280 rfl) (W208 hw) (by decide) (rm_toString l Z a0 EL G a68 t72 kb72 ((((([] ++ sc) ++ [(58 : Int32)]) ++ [(47 : Int32), (47 : Int32)]) ++ c1_) ++ pa) 16 h103 C109.old Z103 (by simp only [List.length_append, List.length_cons, List.length_nil]; omega) (by simp only [List.length_append, List.length_cons, List.length_nil]; omega)) (fun _ => rfl) rfl Z103.1 all0 (by decide) (by decide) (by decide) (by decide) (lenOf pd_3 rfl) rfl (nb rfl) rfl (Y49 43 rfl) (pc' := 105) rfl ?_
      intro vm110 T110 h110 v110 C110 A110 M110 q110
      obtain ⟨a110, d110, kd110, rfl, K110, ge110, gd110, zg110, zd110, Z110⟩ := q110
      have KK111 := (kT KK105 K110 all0)
      exact C110.retA (t := (.object "java/lang/String")) rfl rfl rfl rfl (Y49 44 rfl) (by decide) (by decide) ⟨a110, d110, kd110, rfl, KK111, (lT KK105.1 ge110), (by simpa [own_txt, own_oa, own_oc] using Z110)⟩
    · simp only [own_txt, own_oa, own_oc, List.length_append, List.length_cons, List.length_nil] at hl
      refine C0.new (wd hw 206 rfl) (W207 hw) (W208 hw) (Y49 0 rfl) (pc' := 3) rfl (by decide) (by decide) ?_
      intro T112 h112 a112 C112 K112 A112 ge112 zg112 E112 D112 S112
      refine C112.du (Y49 1 rfl) rfl ?_
      have f113 : Fld Z h112 a112 "java/lang/AbstractStringBuilder" "value" "[B" .null := D112 (Or.inl (W221 hw)) (ty := (.array .byte)) (by decide)
      have f114 : Fld Z h112 a112 "java/lang/AbstractStringBuilder" "coder" "B" (.int 0) := D112 (Or.inl (W223 hw)) (ty := .byte) (by decide)
      have f115 : Fld Z h112 a112 "java/lang/AbstractStringBuilder" "count" "I" (.int 0) := D112 (Or.inl (W236 hw)) (ty := .int) (by decide)
      refine C112.special (y := ⟨"java/lang/StringBuilder", "<init>", "()V"⟩) (W := 1) rfl (wd hw 209 rfl) (wd hw 210 rfl) (wd hw 211 rfl) (W208 hw) (by decide) (rm_sbInit l Z a0 EL G a112 h112 C112.old E112 f113 f114 f115 zg112) (fun _ => rfl) rfl all0 (by decide) (by decide) (by decide) (by decide) (lenOf pd_282956 rfl) rfl (nb rfl) rfl (Y49 2 rfl) (pc' := 7) rfl ?_
      intro vm116 T116 h116 v116 C116 A116 M116 q116
      obtain ⟨rfl, t116, kb116, K116, ge116, zg116, Z116⟩ := q116
      refine C116.aS (Y49 3 rfl) rfl (l' := #[.val (.ref x), .val (.ref a112)]) rfl (C116.aL (Y49 4 rfl) rfl rfl ?_)
      have KK117 := (kT (kT (kR h []) K112 all0) K116 (allS (Or.inr ge112) all0))
      have f118 := (F0.keep KK117 nin0)
      refine C116.getF (W152 hw) f118 (Y49 5 rfl) (pc' := 12) rfl ?_
      intro T119 C119
      refine Endw.st (T' := T119) (g' := (mkF m 15 #[.val (.ref x), .val (.ref a112)] [])) (fun _ k_ => XS.ifnullNo C119.here C119.hx rfl (C119.dec (Y49 6 rfl)) rfl k_) ?_
      refine C119.aL (Y49 7 rfl) rfl rfl (C119.aL (Y49 8 rfl) rfl rfl ?_)
      refine C119.getF (W152 hw) f118 (Y49 9 rfl) (pc' := 20) rfl ?_
      intro T120 C120
      have f121 := (S0_.keep KK117 nin0 nin0)
      refine C120.virtual (W := 0) (W224 hw) (W225 hw) (fun _ q => notFace_of_selects (args := #[]) (mvT q (W227 hw))) (W227 hw) (W226 hw) (W228 hw) (W208 hw) (by decide) (rm_sbAppend l Z a0 EL G a112 t116 kb116 [] 16 s0 t0 k0 sc h116 C120.old Z116 f121 (by simp only [List.length_append, List.length_cons, List.length_nil]; omega) zg112 zg116) (fun _ => rfl) rfl Z116.1 (allS ⟨Z116.2.2.2.1.lt, (own_safe_new (M116 rfl) ge116)⟩ all0) (by decide) (by decide) (by decide) (by decide) (lenOf pd_32 rfl) rfl (nb rfl) rfl (Y49 10 rfl) (pc' := 23) rfl ?_
      intro vm122 T122 h122 v122 C122 A122 M122 q122
      obtain ⟨rfl, K122, Z122⟩ := q122
      refine C122.bi (z := 58) (Y49 11 rfl) rfl ?_
      have f124 := (A122.safe Z116.2.2.2.1.lt (own_safe_new (M116 rfl) ge116))
      refine C122.virtual (W := 0) (wd hw 259 rfl) (wd hw 260 rfl) (fun _ q => notFace_of_selects (args := #[]) (mvT q (W262 hw))) (W262 hw) (wd hw 261 rfl) (wd hw 263 rfl) (W208 hw) (by decide) (rm_sbAppC l Z a0 EL G a112 t116 kb116 ([] ++ sc) 16 (58 : Int32) h122 C122.old Z122 ⟨by decide, by decide⟩ (by simp only [List.length_append, List.length_cons, List.length_nil]; omega) zg112 zg116) (fun _ => rfl) rfl Z122.1 (allS ⟨(lL Z116.2.2.2.1.lt K122.1), f124⟩ all0) (by decide) (by decide) (by decide) (by decide) (lenOf pd_8 rfl) rfl (nb rfl) rfl (Y49 12 rfl) (pc' := 28) rfl ?_
      intro vm123 T123 h123 v123 C123 A123 M123 q123
      obtain ⟨rfl, K123, Z123⟩ := q123
      refine Endw.st (T' := T123) (g' := (mkF m 29 #[.val (.ref x), .val (.ref a112)] [])) (fun _ k_ => XS.pop C123.here C123.hx rfl (C123.dec (Y49 13 rfl)) rfl rfl k_) ?_
      refine C123.aL (Y49 14 rfl) rfl rfl ?_
      have KK125 := (kT (kT KK117 K122 (allS (Or.inr ge112) (allS (Or.inr (lT K112.1 ge116)) all0))) K123 (allS (Or.inr ge112) (allS (Or.inr (lT K112.1 ge116)) all0)))
      have f126 := (F1.keep KK125 nin0)
      refine C123.getF (W154 hw) f126 (Y49 15 rfl) (pc' := 33) rfl ?_
      intro T127 C127
      refine Endw.st (T' := T127) (g' := (mkF m 36 #[.val (.ref x), .val (.ref a112)] [])) (fun _ k_ => XS.ifnullNo C127.here C127.hx rfl (C127.dec (Y49 16 rfl)) rfl k_) ?_
      refine C127.aL (Y49 17 rfl) rfl rfl ?_
      refine C127.ldcC (N := 8) (vs := (bys [(47 : Int32), (47 : Int32)])) (z := (2 : Int32)) (W107 hw) G.wS (by rw [G.el]; decide) ⟨by decide, by decide⟩ (by decide) (by decide) (by decide) (by decide) (by decide) (by decide) (Y49 18 rfl) (pc' := 39) rfl rfl ?_
      intro vm128 T128 h128 a128 b128 kA128 C128 K128 A128 E128 F128 f128 V128 r128
      have f130 := (A128.safe (lL Z116.2.2.2.1.lt (lT K122.1 K123.1)) (A123.safe (lL Z116.2.2.2.1.lt K122.1) f124))
      have Z128 : Str Z h128 a128 b128 kA128 [(47 : Int32), (47 : Int32)] := ⟨E128, F128, f128, V128, (own_cS ⟨by decide, by decide⟩ (own_cS ⟨by decide, by decide⟩ own_c0)), by decide⟩
      have f131 := (Z123.keep K128 nin0 nin0)
      have f133 := (Z123.1.keep K128)
      refine C128.virtual (W := 0) (W224 hw) (W225 hw) (fun _ q => notFace_of_selects (args := #[]) (mvT q (W227 hw))) (W227 hw) (W226 hw) (W228 hw) (W208 hw) (by decide) (rm_sbAppend l Z a0 EL G a112 t116 kb116 (([] ++ sc) ++ [(58 : Int32)]) 16 a128 b128 kA128 [(47 : Int32), (47 : Int32)] h128 C128.old f131 Z128 (by simp only [List.length_append, List.length_cons, List.length_nil]; omega) zg112 zg116) (fun _ => rfl) rfl f133 (allS ⟨(lL Z116.2.2.2.1.lt (lT K122.1 (lT K123.1 K128.1))), f130⟩ all0) (by decide) (by decide) (by decide) (by decide) (lenOf pd_32 rfl) rfl (nb rfl) rfl (Y49 19 rfl) (pc' := 42) rfl ?_
      intro vm132 T132 h132 v132 C132 A132 M132 q132
      obtain ⟨rfl, K132, Z132⟩ := q132
      refine C132.aL (Y49 20 rfl) rfl rfl ?_
      have KK134 := (kT (kT (kR h123 [a112, t116]) K128 all0) K132 (allS m0 (allS m1 all0)))
      have ne135 : x ≠ t116 := (nL (lL (lL E.lt K112.1) ge116))
      have ne136 : x ≠ a112 := (nL (lL E.lt ge112))
      have f137 := (f126.keep KK134 (ninS ne136 (ninS ne135 nin0)))
      refine C132.getF (W154 hw) f137 (Y49 21 rfl) (pc' := 46) rfl ?_
      intro T138 C138
      have KK139 := (kT (kT KK125 K128 all0) K132 (allS (Or.inr ge112) (allS (Or.inr (lT K112.1 ge116)) all0)))
      have f140 := (S1.keep KK139 nin0 nin0)
      have f142 := (A132.safe (lL Z116.2.2.2.1.lt (lT K122.1 (lT K123.1 K128.1))) f130)
      refine C138.virtual (W := 0) (W224 hw) (W225 hw) (fun _ q => notFace_of_selects (args := #[]) (mvT q (W227 hw))) (W227 hw) (W226 hw) (W228 hw) (W208 hw) (by decide) (rm_sbAppend l Z a0 EL G a112 t116 kb116 ((([] ++ sc) ++ [(58 : Int32)]) ++ [(47 : Int32), (47 : Int32)]) 16 s1 t1 k1 c1_ h132 C138.old Z132 f140 (by simp only [List.length_append, List.length_cons, List.length_nil]; omega) zg112 zg116) (fun _ => rfl) rfl Z132.1 (allS ⟨(lL Z116.2.2.2.1.lt (lT K122.1 (lT K123.1 (lT K128.1 K132.1)))), f142⟩ all0) (by decide) (by decide) (by decide) (by decide) (lenOf pd_32 rfl) rfl (nb rfl) rfl (Y49 22 rfl) (pc' := 49) rfl ?_
      intro vm141 T141 h141 v141 C141 A141 M141 q141
      obtain ⟨rfl, K141, Z141⟩ := q141
      refine Endw.st (T' := T141) (g' := (mkF m 50 #[.val (.ref x), .val (.ref a112)] [])) (fun _ k_ => XS.pop C141.here C141.hx rfl (C141.dec (Y49 23 rfl)) rfl rfl k_) ?_
      refine C141.aL (Y49 24 rfl) rfl rfl (C141.aL (Y49 25 rfl) rfl rfl ?_)
      have KK143 := (kT KK139 K141 (allS (Or.inr ge112) (allS (Or.inr (lT K112.1 ge116)) all0)))
      have f144 := (F2.keep KK143 nin0)
      refine C141.getF (wd hw 156 rfl) f144 (Y49 26 rfl) (pc' := 55) rfl ?_
      intro T145 C145
      have f146 := (S2.keep KK143 nin0 nin0)
      have f148 := (A141.safe (lL Z116.2.2.2.1.lt (lT K122.1 (lT K123.1 (lT K128.1 K132.1)))) f142)
      refine C145.virtual (W := 0) (W224 hw) (W225 hw) (fun _ q => notFace_of_selects (args := #[]) (mvT q (W227 hw))) (W227 hw) (W226 hw) (W228 hw) (W208 hw) (by decide) (rm_sbAppend l Z a0 EL G a112 t116 kb116 (((([] ++ sc) ++ [(58 : Int32)]) ++ [(47 : Int32), (47 : Int32)]) ++ c1_) 16 s2 t2 k2 pa h141 C145.old Z141 f146 (by simp only [List.length_append, List.length_cons, List.length_nil]; omega) zg112 zg116) (fun _ => rfl) rfl Z141.1 (allS ⟨(lL Z116.2.2.2.1.lt (lT K122.1 (lT K123.1 (lT K128.1 (lT K132.1 K141.1))))), f148⟩ all0) (by decide) (by decide) (by decide) (by decide) (lenOf pd_32 rfl) rfl (nb rfl) rfl (Y49 27 rfl) (pc' := 58) rfl ?_
      intro vm147 T147 h147 v147 C147 A147 M147 q147
      obtain ⟨rfl, K147, Z147⟩ := q147
      refine Endw.st (T' := T147) (g' := (mkF m 59 #[.val (.ref x), .val (.ref a112)] [])) (fun _ k_ => XS.pop C147.here C147.hx rfl (C147.dec (Y49 28 rfl)) rfl rfl k_) ?_
      refine C147.aL (Y49 29 rfl) rfl rfl ?_
      have KK149 := (kT KK143 K147 (allS (Or.inr ge112) (allS (Or.inr (lT K112.1 ge116)) all0)))
      have f150 := (F3.keep KK149 nin0)
      refine C147.getF (W158 hw) f150 (Y49 30 rfl) (pc' := 63) rfl ?_
      intro T151 C151
      refine Endw.st (T' := T151) (g' := (mkF m 66 #[.val (.ref x), .val (.ref a112)] [])) (fun _ k_ => XS.ifnullNo C151.here C151.hx rfl (C151.dec (Y49 31 rfl)) rfl k_) ?_
      refine C151.aL (Y49 32 rfl) rfl rfl (C151.bi (z := 63) (Y49 33 rfl) rfl ?_)
      have f153 := (A147.safe (lL Z116.2.2.2.1.lt (lT K122.1 (lT K123.1 (lT K128.1 (lT K132.1 K141.1))))) f148)
      refine C151.virtual (W := 0) (wd hw 259 rfl) (wd hw 260 rfl) (fun _ q => notFace_of_selects (args := #[]) (mvT q (W262 hw))) (W262 hw) (wd hw 261 rfl) (wd hw 263 rfl) (W208 hw) (by decide) (rm_sbAppC l Z a0 EL G a112 t116 kb116 ((((([] ++ sc) ++ [(58 : Int32)]) ++ [(47 : Int32), (47 : Int32)]) ++ c1_) ++ pa) 16 (63 : Int32) h147 C151.old Z147 ⟨by decide, by decide⟩ (by simp only [List.length_append, List.length_cons, List.length_nil]; omega) zg112 zg116) (fun _ => rfl) rfl Z147.1 (allS ⟨(lL Z116.2.2.2.1.lt (lT K122.1 (lT K123.1 (lT K128.1 (lT K132.1 (lT K141.1 K147.1)))))), f153⟩ all0) (by decide) (by decide) (by decide) (by decide) (lenOf pd_8 rfl) rfl (nb rfl) rfl (Y49 34 rfl) (pc' := 72) rfl ?_
      intro vm152 T152 h152 v152 C152 A152 M152 q152
      obtain ⟨rfl, K152, Z152⟩ := q152
      refine C152.aL (Y49 35 rfl) rfl rfl ?_
      have f154 := (f150.keep K152 (ninS ne136 (ninS ne135 nin0)))
      refine C152.getF (W158 hw) f154 (Y49 36 rfl) (pc' := 76) rfl ?_
      intro T155 C155
      have KK156 := (kT KK149 K152 (allS (Or.inr ge112) (allS (Or.inr (lT K112.1 ge116)) all0)))
      have f157 := (S3.keep KK156 nin0 nin0)
      have f159 := (A152.safe (lL Z116.2.2.2.1.lt (lT K122.1 (lT K123.1 (lT K128.1 (lT K132.1 (lT K141.1 K147.1)))))) f153)
      refine C155.virtual (W := 0) (W224 hw) (W225 hw) (fun _ q => notFace_of_selects (args := #[]) (mvT q (W227 hw))) (W227 hw) (W226 hw) (W228 hw) (W208 hw) (by decide) (rm_sbAppend l Z a0 EL G a112 t116 kb116 (((((([] ++ sc) ++ [(58 : Int32)]) ++ [(47 : Int32), (47 : Int32)]) ++ c1_) ++ pa) ++ [(63 : Int32)]) 16 s3 t3 k3 c3_ h152 C155.old Z152 f157 (by simp only [List.length_append, List.length_cons, List.length_nil]; omega) zg112 zg116) (fun _ => rfl) rfl Z152.1 (allS ⟨(lL Z116.2.2.2.1.lt (lT K122.1 (lT K123.1 (lT K128.1 (lT K132.1 (lT K141.1 (lT K147.1 K152.1))))))), f159⟩ all0) (by decide) (by decide) (by decide) (by decide) (lenOf pd_32 rfl) rfl (nb rfl) rfl (Y49 37 rfl) (pc' := 79) rfl ?_
      intro vm158 T158 h158 v158 C158 A158 M158 q158
      obtain ⟨rfl, K158, Z158⟩ := q158
      refine Endw.st (T' := T158) (g' := (mkF m 80 #[.val (.ref x), .val (.ref a112)] [])) (fun _ k_ => XS.pop C158.here C158.hx rfl (C158.dec (Y49 38 rfl)) rfl rfl k_) ?_
      refine C158.aL (Y49 39 rfl) rfl rfl ?_
      have KK160 := (kT KK156 K158 (allS (Or.inr ge112) (allS (Or.inr (lT K112.1 ge116)) all0)))
      have f161 := (F4.keep KK160 nin0)
      refine C158.getF (wd hw 160 rfl) f161 (Y49 40 rfl) (pc' := 84) rfl ?_
      intro T162 C162
      refine Endw.st (T' := T162) (g' := (mkF m 101 #[.val (.ref x), .val (.ref a112)] [])) (fun _ k_ => XS.ifnullYes C162.here C162.hx rfl (pc0 := 84) rfl (C162.dec (Y49 41 rfl)) rfl (by decide) rfl k_) ?_
      refine C162.aL (Y49 42 rfl) rfl rfl ?_
      refine C162.virtual (W := 0) (wd hw 276 rfl) (wd hw 277 rfl) (fun _ q => notFace_of_selects (args := #[]) (mvT q (W279 hw))) (W279 hw) (wd hw 278 rfl) (wd hw 280 rfl) (W208 hw) (by decide) (rm_toString l Z a0 EL G a112 t116 kb116 ((((((([] ++ sc) ++ [(58 : Int32)]) ++ [(47 : Int32), (47 : Int32)]) ++ c1_) ++ pa) ++ [(63 : Int32)]) ++ c3_) 16 h158 C162.old Z158 (by simp only [List.length_append, List.length_cons, List.length_nil]; omega) (by simp only [List.length_append, List.length_cons, List.length_nil]; omega)) (fun _ => rfl) rfl Z158.1 all0 (by decide) (by decide) (by decide) (by decide) (lenOf pd_3 rfl) rfl (nb rfl) rfl (Y49 43 rfl) (pc' := 105) rfl ?_
      intro vm163 T163 h163 v163 C163 A163 M163 q163
      obtain ⟨a163, d163, kd163, rfl, K163, ge163, gd163, zg163, zd163, Z163⟩ := q163
      have KK164 := (kT KK160 K163 all0)
      exact C163.retA (t := (.object "java/lang/String")) rfl rfl rfl rfl (Y49 44 rfl) (by decide) (by decide) ⟨a163, d163, kd163, rfl, KK164, (lT KK160.1 ge163), (by simpa [own_txt, own_oa, own_oc] using Z163)⟩
theorem rm_asbInit0 (G : Glob Z a0 EL) (b : Addr) (h : Heap) (O : Ext Z.heap h) (E0 : Exa Z h b "java/lang/StringBuilder") (F0 : Fld Z h b "java/lang/AbstractStringBuilder" "value" "[B" .null) (F1 : Fld Z h b "java/lang/AbstractStringBuilder" "coder" "B" (.int 0)) (F2 : Fld Z h b "java/lang/AbstractStringBuilder" "count" "I" (.int 0)) (zb : Z.heap.size ≤ b) :
    Met l Z EL true ⟨"java/lang/AbstractStringBuilder", "<init>", "(I)V"⟩ jdk_68_method_2_code 2 none [] ⟨1, 1, 0, 12⟩ #[(.ref b), (.int 0)] h [] (fun r h' => r = none ∧ ∃ (t : Addr) (kb : ClassId), Keep h h' [b] ∧ h.size ≤ t ∧ Z.heap.size ≤ t ∧ Sb Z h' b t kb [] 0 ∧ Exa Z h' t "[B") := by
  have hw := G.hw
  obtain ⟨zc, Sc, hzc⟩ := G.cs
  obtain ⟨vo, So, hvo⟩ := G.fo
  refine Met.of (plainFor_of_name pn_75696c646572_3) G.ew O ?_
  intro p e s m below meth c T0 C0 S0
  refine Endw.eq (g' := mkF m 0 #[.val (.ref b), .val (.int 0)] []) rfl ?_
  refine C0.aL (Y37 0 rfl) rfl rfl ?_
  refine C0.initO (wd hw 218 rfl) (W19 hw) (W20 hw) rfl (Y37 1 rfl) (pc' := 4) rfl (by decide) (W := 0) (nb rfl) (by decide) ?_
  intro T1 C1
  refine C1.getS (wd hw 219 rfl) Sc (Y37 2 rfl) (pc' := 7) rfl ?_
  intro T2 C2
  refine C2.fN (Y37 3 rfl) (XT.i0_eq_f hzc) (C2.aL (Y37 4 rfl) rfl rfl (C2.iL (Y37 5 rfl) rfl ?_))
  refine C2.newAE (aty := .byte) (z := (0 : Int32)) (cap := 0) (vs := []) (ad := "[B") (by decide +kernel) (W26 hw) (Y37 6 rfl) (pc' := 14) rfl (by decide) (by decide) (by decide) (by decide) (by decide) rfl ?_
  intro T3 h3 a3 kA3 C3 K3 A3 ge3 zg3 V3 S3 E3
  have f4 := (E0.keep K3)
  have f5 := (F0.keep K3 nin0)
  have f7 := (F1.keep K3 nin0)
  have f8 := (F2.keep K3 nin0)
  refine C3.putF (v := (.ref a3)) (W220 hw) f5 f4 (Or.inl (W221 hw)) (W207 hw) (ty := (.array .byte)) (by decide) rfl rfl zb (Safe.exa C3.warm.alike f4 (by decide) (by decide)) (Y37 7 rfl) (pc' := 17) rfl ?_
  intro T6 h6 C6 K6 A6 Wr6
  have f9 := f5.same Wr6
  have f10 := f7.other Wr6 (Or.inr (slot_ne (Or.inl (W223 hw)) (Or.inl (W221 hw)) (by decide) (t := .byte) (t' := (.array .byte)) (by decide) (by decide)))
  have f11 := f8.other Wr6 (Or.inr (slot_ne (Or.inl (W236 hw)) (Or.inl (W221 hw)) (by decide) (t := .int) (t' := (.array .byte)) (by decide) (by decide)))
  refine C6.aL (Y37 8 rfl) rfl rfl (C6.ic (z := 0) (Y37 9 rfl) rfl ?_)
  have f12 := (f4.keep K6)
  refine C6.putF (v := (.int 0)) (W222 hw) f10 f12 (Or.inl (W223 hw)) (W207 hw) (ty := .byte) (by decide) rfl rfl zb (Safe.exa C6.warm.alike f12 (by decide) (by decide)) (Y37 10 rfl) (pc' := 22) rfl ?_
  intro T13 h13 C13 K13 A13 Wr13
  have f14 := f10.same Wr13
  have f15 := f9.other Wr13 (Or.inr (slot_ne (Or.inl (W221 hw)) (Or.inl (W223 hw)) (by decide) (t := (.array .byte)) (t' := .byte) (by decide) (by decide)))
  have f16 := f11.other Wr13 (Or.inr (slot_ne (Or.inl (W236 hw)) (Or.inl (W223 hw)) (by decide) (t := .int) (t' := .byte) (by decide) (by decide)))
  refine C13.go (pc' := 38) (Y37 11 rfl) (by decide) rfl ?_
  have KK17 := (kT (kT (kR h3 [b]) K6 (allS m0 all0)) K13 (allS m0 all0))
  have ne18 : a3 ≠ b := (Ne.symm (nL (lL E0.lt ge3)))
  have f19 := (V3.keep KK17 (ninS ne18 nin0))
  have KK20 := (kT (kT (kT (kR h [b]) K3 all0) K6 (allS m0 all0)) K13 (allS m0 all0))
  have f21 := (f12.keep K13)
  have f22 := (E3.keep KK17)
  exact C13.retV (Y37 12 rfl) (by decide) (by decide) ⟨rfl, a3, kA3, KK20, ge3, zg3, ⟨f21, ⟨f14, f16⟩, f15, f19, own_c0, by decide, by decide⟩, f22⟩
theorem rm_sbInit0 (G : Glob Z a0 EL) (b : Addr) (h : Heap) (O : Ext Z.heap h) (E0 : Exa Z h b "java/lang/StringBuilder") (F0 : Fld Z h b "java/lang/AbstractStringBuilder" "value" "[B" .null) (F1 : Fld Z h b "java/lang/AbstractStringBuilder" "coder" "B" (.int 0)) (F2 : Fld Z h b "java/lang/AbstractStringBuilder" "count" "I" (.int 0)) (zb : Z.heap.size ≤ b) :
    Met l Z EL true ⟨"java/lang/StringBuilder", "<init>", "(I)V"⟩ jdk_67_method_2_code 2 none [] ⟨2, 1, 0, 25⟩ #[(.ref b), (.int 0)] h [] (fun r h' => r = none ∧ ∃ (t : Addr) (kb : ClassId), Keep h h' [b] ∧ h.size ≤ t ∧ Z.heap.size ≤ t ∧ Sb Z h' b t kb [] 0 ∧ Exa Z h' t "[B") := by
  have hw := G.hw
  obtain ⟨vo, So, hvo⟩ := G.fo
  refine Met.of (plainFor_of_name pn_75696c646572_7) G.ew O ?_
  intro p e s m below meth c T0 C0 S0
  refine Endw.eq (g' := mkF m 0 #[.val (.ref b), .val (.int 0)] []) rfl ?_
  refine C0.aL (Y50 0 rfl) rfl rfl (C0.iL (Y50 1 rfl) rfl ?_)
  refine C0.special (y := ⟨"java/lang/AbstractStringBuilder", "<init>", "(I)V"⟩) (W := 0) rfl (wd hw 212 rfl) (wd hw 213 rfl) (wd hw 217 rfl) (W216 hw) (by decide) (rm_asbInit0 l Z a0 EL G b h C0.old E0 F0 F1 F2 zb) (fun _ => rfl) rfl all0 (by decide) (by decide) (by decide) (by decide) (lenOf pd_28492956 rfl) rfl (nb rfl) rfl (Y50 2 rfl) (pc' := 5) rfl ?_
  intro vm1 T1 h1 v1 C1 A1 M1 q1
  obtain ⟨rfl, t1, kb1, K1, ge1, zg1, Z1, E1⟩ := q1
  exact C1.retV (Y50 3 rfl) (by decide) (by decide) ⟨rfl, t1, kb1, K1, ge1, zg1, Z1, E1⟩
theorem rm_asbInit2 (G : Glob Z a0 EL) (b : Addr) (h : Heap) (O : Ext Z.heap h) (E0 : Exa Z h b "java/lang/StringBuilder") (F0 : Fld Z h b "java/lang/AbstractStringBuilder" "value" "[B" .null) (F1 : Fld Z h b "java/lang/AbstractStringBuilder" "coder" "B" (.int 0)) (F2 : Fld Z h b "java/lang/AbstractStringBuilder" "count" "I" (.int 0)) (zb : Z.heap.size ≤ b) :
    Met l Z EL true ⟨"java/lang/AbstractStringBuilder", "<init>", "(I)V"⟩ jdk_68_method_2_code 2 none [] ⟨1, 1, 2, 12⟩ #[(.ref b), (.int 2)] h [] (fun r h' => r = none ∧ ∃ (t : Addr) (kb : ClassId), Keep h h' [b] ∧ h.size ≤ t ∧ Z.heap.size ≤ t ∧ Sb Z h' b t kb [] 2 ∧ Exa Z h' t "[B") := by
  have hw := G.hw
  obtain ⟨zc, Sc, hzc⟩ := G.cs
  obtain ⟨vo, So, hvo⟩ := G.fo
  refine Met.of (plainFor_of_name pn_75696c646572_3) G.ew O ?_
  intro p e s m below meth c T0 C0 S0
  refine Endw.eq (g' := mkF m 0 #[.val (.ref b), .val (.int 2)] []) rfl ?_
  refine C0.aL (Y37 0 rfl) rfl rfl ?_
  refine C0.initO (wd hw 218 rfl) (W19 hw) (W20 hw) rfl (Y37 1 rfl) (pc' := 4) rfl (by decide) (W := 0) (nb rfl) (by decide) ?_
  intro T1 C1
  refine C1.getS (wd hw 219 rfl) Sc (Y37 2 rfl) (pc' := 7) rfl ?_
  intro T2 C2
  refine C2.fN (Y37 3 rfl) (XT.i0_eq_f hzc) (C2.aL (Y37 4 rfl) rfl rfl (C2.iL (Y37 5 rfl) rfl ?_))
  refine C2.newAE (aty := .byte) (z := (2 : Int32)) (cap := 2) (vs := []) (ad := "[B") (by decide +kernel) (W26 hw) (Y37 6 rfl) (pc' := 14) rfl (by decide) (by decide) (by decide) (by decide) (by decide) rfl ?_
  intro T3 h3 a3 kA3 C3 K3 A3 ge3 zg3 V3 S3 E3
  have f4 := (E0.keep K3)
  have f5 := (F0.keep K3 nin0)
  have f7 := (F1.keep K3 nin0)
  have f8 := (F2.keep K3 nin0)
  refine C3.putF (v := (.ref a3)) (W220 hw) f5 f4 (Or.inl (W221 hw)) (W207 hw) (ty := (.array .byte)) (by decide) rfl rfl zb (Safe.exa C3.warm.alike f4 (by decide) (by decide)) (Y37 7 rfl) (pc' := 17) rfl ?_
  intro T6 h6 C6 K6 A6 Wr6
  have f9 := f5.same Wr6
  have f10 := f7.other Wr6 (Or.inr (slot_ne (Or.inl (W223 hw)) (Or.inl (W221 hw)) (by decide) (t := .byte) (t' := (.array .byte)) (by decide) (by decide)))
  have f11 := f8.other Wr6 (Or.inr (slot_ne (Or.inl (W236 hw)) (Or.inl (W221 hw)) (by decide) (t := .int) (t' := (.array .byte)) (by decide) (by decide)))
  refine C6.aL (Y37 8 rfl) rfl rfl (C6.ic (z := 0) (Y37 9 rfl) rfl ?_)
  have f12 := (f4.keep K6)
  refine C6.putF (v := (.int 0)) (W222 hw) f10 f12 (Or.inl (W223 hw)) (W207 hw) (ty := .byte) (by decide) rfl rfl zb (Safe.exa C6.warm.alike f12 (by decide) (by decide)) (Y37 10 rfl) (pc' := 22) rfl ?_
  intro T13 h13 C13 K13 A13 Wr13
  have f14 := f10.same Wr13
  have f15 := f9.other Wr13 (Or.inr (slot_ne (Or.inl (W221 hw)) (Or.inl (W223 hw)) (by decide) (t := (.array .byte)) (t' := .byte) (by decide) (by decide)))
  have f16 := f11.other Wr13 (Or.inr (slot_ne (Or.inl (W236 hw)) (Or.inl (W223 hw)) (by decide) (t := .int) (t' := .byte) (by decide) (by decide)))
  refine C13.go (pc' := 38) (Y37 11 rfl) (by decide) rfl ?_
  have KK17 := (kT (kT (kR h3 [b]) K6 (allS m0 all0)) K13 (allS m0 all0))
  have ne18 : a3 ≠ b := (Ne.symm (nL (lL E0.lt ge3)))
  have f19 := (V3.keep KK17 (ninS ne18 nin0))
  have KK20 := (kT (kT (kT (kR h [b]) K3 all0) K6 (allS m0 all0)) K13 (allS m0 all0))
  have f21 := (f12.keep K13)
  have f22 := (E3.keep KK17)
  exact C13.retV (Y37 12 rfl) (by decide) (by decide) ⟨rfl, a3, kA3, KK20, ge3, zg3, ⟨f21, ⟨f14, f16⟩, f15, f19, own_c0, by decide, by decide⟩, f22⟩
theorem rm_sbInit2 (G : Glob Z a0 EL) (b : Addr) (h : Heap) (O : Ext Z.heap h) (E0 : Exa Z h b "java/lang/StringBuilder") (F0 : Fld Z h b "java/lang/AbstractStringBuilder" "value" "[B" .null) (F1 : Fld Z h b "java/lang/AbstractStringBuilder" "coder" "B" (.int 0)) (F2 : Fld Z h b "java/lang/AbstractStringBuilder" "count" "I" (.int 0)) (zb : Z.heap.size ≤ b) :
    Met l Z EL true ⟨"java/lang/StringBuilder", "<init>", "(I)V"⟩ jdk_67_method_2_code 2 none [] ⟨2, 1, 2, 25⟩ #[(.ref b), (.int 2)] h [] (fun r h' => r = none ∧ ∃ (t : Addr) (kb : ClassId), Keep h h' [b] ∧ h.size ≤ t ∧ Z.heap.size ≤ t ∧ Sb Z h' b t kb [] 2 ∧ Exa Z h' t "[B") := by
  have hw := G.hw
  obtain ⟨vo, So, hvo⟩ := G.fo
  refine Met.of (plainFor_of_name pn_75696c646572_7) G.ew O ?_
  intro p e s m below meth c T0 C0 S0
  refine Endw.eq (g' := mkF m 0 #[.val (.ref b), .val (.int 2)] []) rfl ?_
  refine C0.aL (Y50 0 rfl) rfl rfl (C0.iL (Y50 1 rfl) rfl ?_)
  refine C0.special (y := ⟨"java/lang/AbstractStringBuilder", "<init>", "(I)V"⟩) (W := 0) rfl (wd hw 212 rfl) (wd hw 213 rfl) (wd hw 217 rfl) (W216 hw) (by decide) (rm_asbInit2 l Z a0 EL G b h C0.old E0 F0 F1 F2 zb) (fun _ => rfl) rfl all0 (by decide) (by decide) (by decide) (by decide) (lenOf pd_28492956 rfl) rfl (nb rfl) rfl (Y50 2 rfl) (pc' := 5) rfl ?_
  intro vm1 T1 h1 v1 C1 A1 M1 q1
  obtain ⟨rfl, t1, kb1, K1, ge1, zg1, Z1, E1⟩ := q1
  exact C1.retV (Y50 3 rfl) (by decide) (by decide) ⟨rfl, t1, kb1, K1, ge1, zg1, Z1, E1⟩
theorem rm_value (G : Glob Z a0 EL) (a t : Addr) (h : Heap) (O : Ext Z.heap h) (F0 : Fld Z h a "java/lang/String" "value" "[B" (.ref t)) :
    Met l Z EL true ⟨"java/lang/String", "value", "()[B"⟩ jdk_42_method_153_code 1 (some (.array .byte)) [] ⟨0, 0, 0, 0⟩ #[(.ref a)] h [] (fun r h' => r = some (.ref t) ∧ h = h') := by
  have hw := G.hw
  obtain ⟨vo, So, hvo⟩ := G.fo
  refine Met.of (plainFor_of_name pn_537472696e67_6) G.ew O ?_
  intro p e s m below meth c T0 C0 S0
  refine Endw.eq (g' := mkF m 0 #[.val (.ref a)] []) rfl ?_
  refine C0.aL (Y51 0 rfl) rfl rfl ?_
  refine C0.getF (W35 hw) F0 (Y51 1 rfl) (pc' := 4) rfl ?_
  intro T1 C1
  exact C1.retA (t := (.array .byte)) rfl rfl rfl rfl (Y51 2 rfl) (by decide) (by decide) ⟨rfl, rfl⟩
theorem rm_appChars (G : Glob Z a0 EL) (b tb : Addr) (kb : ClassId) (a t : Addr) (kc : ClassId) (h : Heap) (O : Ext Z.heap h) (B : Sb Z h b tb kb [] 2) (S : Str Z h a t kc [(47 : Int32), (121 : Int32)]) (zb : Z.heap.size ≤ b) (zt : Z.heap.size ≤ tb) :
    Met l Z EL true ⟨"java/lang/AbstractStringBuilder", "appendChars", "(Ljava/lang/String;II)V"⟩ jdk_68_method_75_code 8 none [] ⟨1, 0, 0, 18⟩ #[(.ref b), (.ref a), (.int 0), (.int 2)] h [tb] (fun r h' => r = none ∧ Keep h h' [b, tb] ∧ Sb Z h' b tb kb ([] ++ [(47 : Int32), (121 : Int32)]) 2) := by
  have hw := G.hw
  obtain ⟨vo, So, hvo⟩ := G.fo
  refine Met.of (plainFor_of_name pn_75696c646572_3) G.ew O ?_
  intro p e s m below meth c T0 C0 S0
  refine Endw.eq (g' := mkF m 0 #[.val (.ref b), .val (.ref a), .val (.int 0), .val (.int 2), .unset, .unset, .unset, .unset] []) rfl ?_
  refine C0.aL (Y52 0 rfl) rfl rfl ?_
  refine C0.virtual (W := 0) (wd hw 268 rfl) (wd hw 269 rfl) (fun _ q => notFace_of_selects (args := #[]) (mvT q (W271 hw))) (W271 hw) (wd hw 270 rfl) (wd hw 272 rfl) (W216 hw) (by decide) (rm_asbLat l Z a0 EL G b h C0.old B.2.1.1) (fun _ => rfl) rfl B.1 all0 (by decide) (by decide) (by decide) (by decide) (lenOf pd_28295a rfl) rfl (nb rfl) rfl (Y52 1 rfl) (pc' := 4) rfl ?_
  intro vm1 T1 h1 v1 C1 A1 M1 q1
  obtain ⟨rfl, rfl⟩ := q1
  refine C1.fN (Y52 2 rfl) (XT.i0_eq_f (by decide)) (C1.aL (Y52 3 rfl) rfl rfl ?_)
  refine C1.virtual (W := 0) (wd hw 354 rfl) (W56 hw) (fun _ q => notFace_of_selects (args := #[]) (mvT q (W58 hw))) (W58 hw) (W57 hw) (W59 hw) (W10 hw) (by decide) (rm_isLatin1 l Z a0 EL G a h C1.old S.2.1) (fun _ => rfl) rfl S.1 all0 (by decide) (by decide) (by decide) (by decide) (lenOf pd_28295a rfl) rfl (nb rfl) rfl (Y52 4 rfl) (pc' := 11) rfl ?_
  intro vm2 T2 h2 v2 C2 A2 M2 q2
  obtain ⟨rfl, rfl⟩ := q2
  refine C2.fN (Y52 5 rfl) (XT.i0_eq_f (by decide)) (C2.aL (Y52 6 rfl) rfl rfl ?_)
  refine C2.virtual (W := 0) (wd hw 355 rfl) (wd hw 356 rfl) (fun _ q => notFace_of_selects (args := #[]) (mvT q (wd hw 358 rfl))) (wd hw 358 rfl) (wd hw 357 rfl) (wd hw 359 rfl) (W10 hw) (by decide) (rm_value l Z a0 EL G a t h C2.old S.2.2.1) (fun _ => rfl) rfl S.1 all0 (by decide) (by decide) (by decide) (by decide) (lenOf pd_28295b42 rfl) rfl (nb rfl) rfl (Y52 7 rfl) (pc' := 18) rfl ?_
  intro vm3 T3 h3 v3 C3 A3 M3 q3
  obtain ⟨rfl, rfl⟩ := q3
  refine C3.iL (Y52 8 rfl) rfl (C3.aL (Y52 9 rfl) rfl rfl ?_)
  refine C3.getF (W220 hw) B.2.2.1 (Y52 10 rfl) (pc' := 23) rfl ?_
  intro T4 C4
  refine C4.aL (Y52 11 rfl) rfl rfl ?_
  refine C4.getF (W235 hw) B.2.1.2 (Y52 12 rfl) (pc' := 27) rfl ?_
  intro T5 C5
  refine C5.iL (Y52 13 rfl) rfl (C5.iL (Y52 14 rfl) rfl (C5.sb (z := 2) (Y52 15 rfl) rfl ?_))
  have f7 := (A3.safe B.2.2.2.1.lt (A2.safe B.2.2.2.1.lt (A1.safe B.2.2.2.1.lt (S0 tb (by simp)))))
  refine C5.acopyCat (cs := []) (ds := [(47 : Int32), (121 : Int32)]) (cap := 2) (W := 0) (wd hw 360 rfl) (wd hw 144 rfl) (wd hw 142 rfl) (wd hw 143 rfl) S.2.2.2.1 B.2.2.2.1 (nb rfl) (nb rfl) zt f7 rfl (Y52 16 rfl) (pc' := 33) rfl (by decide) (nb rfl) (by decide) ?_
  intro T6 h6 C6 K6 A6 V6
  refine C6.go (pc' := 194) (Y52 17 rfl) (by decide) rfl (C6.aL (Y52 18 rfl) rfl rfl (C6.du (Y52 19 rfl) rfl ?_))
  have ne8 : b ≠ tb := (RoadKit.Exa.neArv B.1 B.2.2.2.1 (W207 hw))
  have f9 := (B.2.1.2.keep K6 (ninS ne8 nin0))
  refine C6.getF (W235 hw) f9 (Y52 20 rfl) (pc' := 199) rfl ?_
  intro T10 C10
  refine C10.iL (Y52 21 rfl) rfl (C10.iL (Y52 22 rfl) rfl (C10.sb (z := 2) (Y52 23 rfl) rfl (C10.ad (z := 2) (Y52 24 rfl) rfl ?_)))
  have f11 := (B.1.keep K6)
  have f13 := (B.2.1.1.keep K6 (ninS ne8 nin0))
  have f14 := (B.2.2.1.keep K6 (ninS ne8 nin0))
  refine C10.putF (v := (.int 2)) (W235 hw) f9 f11 (Or.inl (W236 hw)) (W207 hw) (ty := .int) (by decide) rfl rfl zb (Safe.exa C10.warm.alike f11 (by decide) (by decide)) (Y52 25 rfl) (pc' := 206) rfl ?_
  intro T12 h12 C12 K12 A12 Wr12
  have f15 := f9.same Wr12
  have f16 := f13.other Wr12 (Or.inr (slot_ne (Or.inl (W223 hw)) (Or.inl (W236 hw)) (by decide) (t := .byte) (t' := .int) (by decide) (by decide)))
  have f17 := f14.other Wr12 (Or.inr (slot_ne (Or.inl (W221 hw)) (Or.inl (W236 hw)) (by decide) (t := (.array .byte)) (t' := .int) (by decide) (by decide)))
  have KK18 := (kT (kT (kR h [tb, b]) K6 (allS m0 all0)) K12 (allS m1 all0))
  have f19 := (f11.keep K12)
  have f20 := (V6.keep K12 (ninS (Ne.symm ne8) nin0))
  exact C12.retV (Y52 26 rfl) (by decide) (by decide) ⟨rfl, (kT (kR h [b, tb]) KK18 (allS m1 (allS m0 all0))), ⟨f19, ⟨f16, f15⟩, f17, f20, own_all_app B.2.2.2.2.1 S.2.2.2.2.1, by decide, by decide⟩⟩
theorem rm_asbAppS (G : Glob Z a0 EL) (b tb : Addr) (kb : ClassId) (a t : Addr) (kc : ClassId) (h : Heap) (O : Ext Z.heap h) (B : Sb Z h b tb kb [] 2) (S : Str Z h a t kc [(47 : Int32), (121 : Int32)]) (zb : Z.heap.size ≤ b) (zt : Z.heap.size ≤ tb) :
    Met l Z EL true ⟨"java/lang/AbstractStringBuilder", "append", "(Ljava/lang/CharSequence;II)Ljava/lang/AbstractStringBuilder;"⟩ jdk_68_method_27_code 5 (some (.object "java/lang/AbstractStringBuilder")) [] ⟨2, 0, 0, 37⟩ #[(.ref b), (.ref a), (.int 0), (.int 2)] h [tb] (fun r h' => r = some (.ref b) ∧ Keep h h' [b, tb] ∧ Sb Z h' b tb kb ([] ++ [(47 : Int32), (121 : Int32)]) 2) := by
  have hw := G.hw
  obtain ⟨vo, So, hvo⟩ := G.fo
  refine Met.of (plainFor_of_name pn_75696c646572_3) G.ew O ?_
  intro p e s m below meth c T0 C0 S0
  refine Endw.eq (g' := mkF m 0 #[.val (.ref b), .val (.ref a), .val (.int 0), .val (.int 2), .unset] []) rfl ?_
  refine C0.aL (Y53 0 rfl) rfl rfl ?_
  refine Endw.st (T' := T0) (g' := (mkF m 7 #[.val (.ref b), .val (.ref a), .val (.int 0), .val (.int 2), .unset] [])) (fun _ k_ => XS.ifnonnullYes C0.here C0.hx rfl (pc0 := 1) rfl (C0.dec (Y53 1 rfl)) rfl (by decide) rfl k_) ?_
  refine C0.iL (Y53 2 rfl) rfl (C0.iL (Y53 3 rfl) rfl (C0.aL (Y53 4 rfl) rfl rfl ?_))
  refine C0.iface (W := 2) (wd hw 338 rfl) (wd hw 339 rfl) (wd hw 340 rfl) (wd hw 341 rfl) (W62 hw) (wd hw 342 rfl) (wd hw 343 rfl) (wd hw 344 rfl) (W64 hw) (W10 hw) (by decide) (rm_strLen l Z a0 EL G a t kc [(47 : Int32), (121 : Int32)] h C0.old S) (fun _ => rfl) rfl S.1 all0 (by decide) (by decide) (by decide) (by decide) (lenOf pd_282949 rfl) rfl (nb rfl) rfl (Y53 5 rfl) (pc' := 15) rfl ?_
  intro vm1 T1 h1 v1 C1 A1 M1 q1
  obtain ⟨rfl, rfl⟩ := q1
  refine C1.getS (wd hw 345 rfl) So (Y53 6 rfl) (pc' := 18) rfl ?_
  intro T2 C2
  refine C2.static (W := 0) (wd hw 347 rfl) (wd hw 124 rfl) (wd hw 125 rfl) (wd hw 103 rfl) (by decide) (rm_pft l Z a0 EL G 0 2 2 vo hvo h C2.old (by omega) (by omega) (by omega)) (fun _ => rfl) rfl all0 (by decide) (by decide) (by decide) (by decide) (lenOf pd_20 rfl) rfl (nb rfl) rfl (Y53 7 rfl) (pc' := 21) rfl ?_
  intro vm3 T3 h3 v3 C3 A3 M3 q3
  obtain ⟨rfl, rfl⟩ := q3
  refine Endw.st (T' := T3) (g' := (mkF m 22 #[.val (.ref b), .val (.ref a), .val (.int 0), .val (.int 2), .unset] [])) (fun _ k_ => XS.pop C3.here C3.hx rfl (C3.dec (Y53 8 rfl)) rfl rfl k_) ?_
  refine C3.iL (Y53 9 rfl) rfl (C3.iL (Y53 10 rfl) rfl (C3.sb (z := 2) (Y53 11 rfl) rfl (C3.iSk (Y53 12 rfl) (l' := #[.val (.ref b), .val (.ref a), .val (.int 0), .val (.int 2), .val (.int 2)]) rfl (C3.aL (Y53 13 rfl) rfl rfl (C3.aL (Y53 14 rfl) rfl rfl ?_)))))
  refine C3.getF (W235 hw) B.2.1.2 (Y53 15 rfl) (pc' := 32) rfl ?_
  intro T4 C4
  refine C4.iLk (Y53 16 rfl) rfl (C4.ad (z := 2) (Y53 17 rfl) rfl ?_)
  refine C4.priv (W := 0) (wd hw 237 rfl) (W238 hw) (own_plain (y := ⟨"java/lang/AbstractStringBuilder", "ensureCapacityInternal", "(I)V"⟩) (W240 hw) (W238 hw)) (wd hw 239 rfl) (wd hw 241 rfl) (W216 hw) (by decide) (rm_ensure l Z a0 EL G b tb kb [] 2 ([] ++ [(47 : Int32), (121 : Int32)]).length h C4.old B (nb rfl)) (fun _ => rfl) rfl B.1 all0 (by decide) (by decide) (by decide) (by decide) (lenOf pd_28492956 rfl) rfl (nb rfl) rfl (Y53 18 rfl) (pc' := 38) rfl ?_
  intro vm5 T5 h5 v5 C5 A5 M5 q5
  obtain ⟨rfl, rfl⟩ := q5
  refine C5.aL (Y53 19 rfl) rfl rfl ?_
  refine C5.instY (wd hw 348 rfl) (Ins.self S.1) (Y53 20 rfl) (pc' := 42) rfl ?_
  intro T6 C6
  refine C6.fN (Y53 21 rfl) (XT.i0_eq_f (by decide)) (C6.aL (Y53 22 rfl) rfl rfl (C6.aL (Y53 23 rfl) rfl rfl ?_))
  refine C6.castY (wd hw 348 rfl) (Ins.self S.1) (Y53 24 rfl) (pc' := 50) rfl ?_
  intro T7 C7
  refine C7.iL (Y53 25 rfl) rfl (C7.iL (Y53 26 rfl) rfl ?_)
  have f9 := (A5.safe B.2.2.2.1.lt (A3.safe B.2.2.2.1.lt (A1.safe B.2.2.2.1.lt (S0 tb (by simp)))))
  refine C7.priv (W := 0) (wd hw 349 rfl) (wd hw 350 rfl) (own_plain (y := ⟨"java/lang/AbstractStringBuilder", "ensureCapacityInternal", "(I)V"⟩) (W240 hw) (W238 hw)) (wd hw 351 rfl) (wd hw 353 rfl) (W216 hw) (by decide) (rm_appChars l Z a0 EL G b tb kb a t kc h C7.old B S zb zt) (fun _ => rfl) rfl B.1 (allS ⟨B.2.2.2.1.lt, f9⟩ all0) (by decide) (by decide) (by decide) (by decide) (lenOf pd_36 rfl) rfl (nb rfl) rfl (Y53 27 rfl) (pc' := 55) rfl ?_
  intro vm8 T8 h8 v8 C8 A8 M8 q8
  obtain ⟨rfl, K8, Z8⟩ := q8
  refine C8.go (pc' := 65) (Y53 28 rfl) (by decide) rfl (C8.aL (Y53 29 rfl) rfl rfl ?_)
  exact C8.retA (t := (.object "java/lang/AbstractStringBuilder")) rfl rfl rfl rfl (Y53 30 rfl) (by decide) (by decide) ⟨rfl, K8, Z8⟩
theorem rm_sbAppS (G : Glob Z a0 EL) (b tb : Addr) (kb : ClassId) (a t : Addr) (kc : ClassId) (h : Heap) (O : Ext Z.heap h) (B : Sb Z h b tb kb [] 2) (S : Str Z h a t kc [(47 : Int32), (121 : Int32)]) (zb : Z.heap.size ≤ b) (zt : Z.heap.size ≤ tb) :
    Met l Z EL true ⟨"java/lang/StringBuilder", "append", "(Ljava/lang/CharSequence;II)Ljava/lang/StringBuilder;"⟩ jdk_67_method_10_code 4 (some (.object "java/lang/StringBuilder")) [] ⟨3, 0, 0, 53⟩ #[(.ref b), (.ref a), (.int 0), (.int 2)] h [tb] (fun r h' => r = some (.ref b) ∧ Keep h h' [b, tb] ∧ Sb Z h' b tb kb ([] ++ [(47 : Int32), (121 : Int32)]) 2) := by
  have hw := G.hw
  obtain ⟨vo, So, hvo⟩ := G.fo
  refine Met.of (plainFor_of_name pn_75696c646572_7) G.ew O ?_
  intro p e s m below meth c T0 C0 S0
  refine Endw.eq (g' := mkF m 0 #[.val (.ref b), .val (.ref a), .val (.int 0), .val (.int 2)] []) rfl ?_
  refine C0.aL (Y54 0 rfl) rfl rfl (C0.aL (Y54 1 rfl) rfl rfl (C0.iL (Y54 2 rfl) rfl (C0.iL (Y54 3 rfl) rfl ?_)))
  refine C0.super (y := ⟨"java/lang/AbstractStringBuilder", "append", "(Ljava/lang/CharSequence;II)Ljava/lang/AbstractStringBuilder;"⟩) (W := 0) (a := b) (argsL := [(.ref a), (.int 0), (.int 2)]) (rest := []) (by decide) (wd hw 334 rfl) (own_same (wd hw 336 rfl) (own_plain (y := ⟨"java/lang/AbstractStringBuilder", "ensureCapacityInternal", "(I)V"⟩) (W240 hw) (W238 hw)) (by decide)) (wd hw 335 rfl) (wd hw 231 rfl) (wd hw 337 rfl) (W216 hw) (rm_asbAppS l Z a0 EL G b tb kb a t kc h C0.old B S zb zt) (fun _ => rfl) rfl B.1 (allS ⟨B.2.2.2.1.lt, (S0 tb (by simp))⟩ all0) (by decide) (by decide) (by decide) (by decide) (lenOf pd_25 rfl) rfl (nb rfl) rfl (Y54 4 rfl) (pc' := 7) rfl ?_
  intro vm1 T1 h1 v1 C1 A1 M1 q1
  obtain ⟨rfl, K1, Z1⟩ := q1
  refine Endw.st (T' := T1) (g' := (mkF m 8 #[.val (.ref b), .val (.ref a), .val (.int 0), .val (.int 2)] [])) (fun _ k_ => XS.pop C1.here C1.hx rfl (C1.dec (Y54 5 rfl)) rfl rfl k_) ?_
  refine C1.aL (Y54 6 rfl) rfl rfl ?_
  exact C1.retA (t := (.object "java/lang/StringBuilder")) rfl rfl rfl rfl (Y54 7 rfl) (by decide) (by decide) ⟨rfl, K1, Z1⟩
theorem rm_crC (G : Glob Z a0 EL) (t : Addr) (kb : ClassId) (cs : List Int32) (h : Heap) (O : Ext Z.heap h) (V : Arv Z h t kb .byte (Int32.ofNat cs.length) (bys cs) (.int 0)) (ET : Exa Z h t "[B") (h4 : cs.length ≤ 4) :
    Met l Z EL true ⟨"java/util/Arrays", "copyOfRange", "([BII)[B"⟩ jdk_65_method_132_code 3 (some (.array .byte)) [] ⟨1, 1, 4, 14⟩ #[(.ref t), (.int 0), (.int (Int32.ofNat cs.length))] h [] (fun r h' => ∃ (d : Addr) (kd : ClassId), r = some (.ref d) ∧ Keep h h' [] ∧ h.size ≤ d ∧ Z.heap.size ≤ d ∧ Arv Z h' d kd .byte (Int32.ofNat cs.length) (bys cs) (.int 0)) := by
  have hw := G.hw
  obtain ⟨vo, So, hvo⟩ := G.fo
  refine Met.of (plainFor_of_name pn_417272617973_10) G.ew O ?_
  intro p e s m below meth c T0 C0 S0
  refine Endw.eq (g' := mkF m 0 #[.val (.ref t), .val (.int 0), .val (.int (Int32.ofNat cs.length))] []) rfl ?_
  refine C0.iL (Y22 0 rfl) rfl (C0.fN (Y22 1 rfl) (XT.i0_ne_f (by decide)) (C0.iL (Y22 2 rfl) rfl (C0.aL (Y22 3 rfl) rfl rfl ?_)))
  refine C0.len V (Y22 4 rfl) (pc' := 7) rfl ?_
  refine C0.cY (pc' := 17) (Y22 5 rfl) (XT.ii_eq_t rfl) (by decide) rfl (C0.aL (Y22 11 rfl) rfl rfl ?_)
  refine C0.clone (ad := "[B") (W := 0) (cap := 4) (a := t) (rest := []) (wd hw 362 rfl) (wd hw 363 rfl) (wd hw 367 rfl) (wd hw 365 rfl) (wd hw 366 rfl) (wd hw 368 rfl) V ET (by decide) (nb rfl) (by decide) (by rw [own_nc (by omega)]; exact h4) (by decide) (by decide) rfl (Y22 12 rfl) (pc' := 21) rfl ?_
  intro T1 h1 a1 C1 K1 A1 ge1 zg1 V1 S1 E1
  show Endw p e below T1 (mkF m 21 #[.val (.ref t), .val (.int 0), .val (.int (Int32.ofNat cs.length))] [(.ref a1)]) _
  refine C1.castY (wd hw 369 rfl) (Ins.of_exa E1 (wd hw 370 rfl)) (Y22 13 rfl) (pc' := 24) rfl ?_
  intro T2 C2
  exact C2.retA (t := (.array .byte)) rfl rfl rfl rfl (Y22 14 rfl) (by decide) (by decide) ⟨a1, kb, rfl, K1, ge1, zg1, V1⟩
theorem rm_siaC (G : Glob Z a0 EL) (a b t : Addr) (kb : ClassId) (cs : List Int32) (h : Heap) (O : Ext Z.heap h) (E0 : Exa Z h a "java/lang/String") (F0 : Fld Z h a "java/lang/String" "value" "[B" .null) (F1 : Fld Z h a "java/lang/String" "coder" "B" (.int 0)) (za : Z.heap.size ≤ a) (B : Sb Z h b t kb cs cs.length) (ET : Exa Z h t "[B") (h4 : cs.length ≤ 4) :
    Met l Z EL true ⟨"java/lang/String", "<init>", "(Ljava/lang/AbstractStringBuilder;Ljava/lang/Void;)V"⟩ jdk_42_method_150_code 5 none [] ⟨2, 1, 4, 29⟩ #[(.ref a), (.ref b), .null] h [a] (fun r h' => r = none ∧ ∃ (d : Addr) (kd : ClassId), Keep h h' [a] ∧ h.size ≤ d ∧ Z.heap.size ≤ d ∧ Str Z h' a d kd cs) := by
  have hw := G.hw
  obtain ⟨vo, So, hvo⟩ := G.fo
  refine Met.of (plainFor_of_name pn_537472696e67_6) G.ew O ?_
  intro p e s m below meth c T0 C0 S0
  refine Endw.eq (g' := mkF m 0 #[.val (.ref a), .val (.ref b), .val .null, .unset, .unset] []) rfl ?_
  refine C0.aL (Y43 0 rfl) rfl rfl ?_
  refine C0.initO (wd hw 18 rfl) (W19 hw) (W20 hw) rfl (Y43 1 rfl) (pc' := 4) rfl (by decide) (W := 0) (nb rfl) (by decide) ?_
  intro T1 C1
  refine C1.aL (Y43 2 rfl) rfl rfl ?_
  refine C1.virtual (W := 0) (wd hw 288 rfl) (wd hw 289 rfl) (fun _ q => notFace_of_selects (args := #[]) (mvT q (wd hw 291 rfl))) (wd hw 291 rfl) (wd hw 290 rfl) (wd hw 292 rfl) (W216 hw) (by decide) (rm_getValue l Z a0 EL G b t h C1.old B.2.2.1) (fun _ => rfl) rfl B.1 all0 (by decide) (by decide) (by decide) (by decide) (lenOf pd_28295b42 rfl) rfl (nb rfl) rfl (Y43 3 rfl) (pc' := 8) rfl ?_
  intro vm2 T2 h2 v2 C2 A2 M2 q2
  obtain ⟨rfl, rfl⟩ := q2
  refine C2.aS (Y43 4 rfl) rfl (l' := #[.val (.ref a), .val (.ref b), .val .null, .val (.ref t), .unset]) rfl (C2.aL (Y43 5 rfl) rfl rfl ?_)
  refine C2.virtual (W := 0) (wd hw 293 rfl) (wd hw 294 rfl) (fun _ q => own_nf (own_plain (y := ⟨"java/lang/AbstractStringBuilder", "ensureCapacityInternal", "(I)V"⟩) (a0 := #[]) (mvT q (W240 hw)) (mvT q (W238 hw)))) (wd hw 296 rfl) (wd hw 297 rfl) (wd hw 298 rfl) (W208 hw) (by decide) (rm_sbLen l Z a0 EL G b (Int32.ofNat cs.length) h C2.old B.1 B.2.1.2) (fun _ => rfl) rfl B.1 all0 (by decide) (by decide) (by decide) (by decide) (lenOf pd_282949 rfl) rfl (nb rfl) rfl (Y43 6 rfl) (pc' := 13) rfl ?_
  intro vm3 T3 h3 v3 C3 A3 M3 q3
  obtain ⟨rfl, rfl⟩ := q3
  refine C3.iSk (Y43 7 rfl) (l' := #[.val (.ref a), .val (.ref b), .val .null, .val (.ref t), .val (.int (Int32.ofNat cs.length))]) rfl (C3.aL (Y43 8 rfl) rfl rfl ?_)
  refine C3.virtual (W := 0) (wd hw 301 rfl) (wd hw 269 rfl) (fun _ q => notFace_of_selects (args := #[]) (mvT q (W271 hw))) (W271 hw) (wd hw 270 rfl) (wd hw 272 rfl) (W216 hw) (by decide) (rm_asbLat l Z a0 EL G b h C3.old B.2.1.1) (fun _ => rfl) rfl B.1 all0 (by decide) (by decide) (by decide) (by decide) (lenOf pd_28295a rfl) rfl (nb rfl) rfl (Y43 9 rfl) (pc' := 19) rfl ?_
  intro vm4 T4 h4 v4 C4 A4 M4 q4
  obtain ⟨rfl, rfl⟩ := q4
  refine C4.fN (Y43 10 rfl) (XT.i0_eq_f (by decide)) (C4.aL (Y43 11 rfl) rfl rfl (C4.ic (z := 0) (Y43 12 rfl) rfl ?_))
  have f6 := (A4.safe E0.lt (A3.safe E0.lt (A2.safe E0.lt (S0 a (by simp)))))
  refine C4.putF (v := (.int 0)) (wd hw 33 rfl) F1 E0 (Or.inr ⟨(W34 hw), rfl, rfl⟩) (W9 hw) (ty := .byte) (by decide) rfl rfl za f6 (Y43 13 rfl) (pc' := 27) rfl ?_
  intro T5 h5 C5 K5 A5 Wr5
  have f7 := F1.same Wr5
  have f8 := F0.other Wr5 (Or.inr (slot_ne (Or.inr (W36 hw)) (Or.inr (W34 hw)) (by decide) (t := (.array .byte)) (t' := .byte) (by decide) (by decide)))
  refine C5.aL (Y43 14 rfl) rfl rfl (C5.aL (Y43 15 rfl) rfl rfl (C5.ic (z := 0) (Y43 16 rfl) rfl (C5.iLk (Y43 17 rfl) rfl ?_)))
  have ne9 : t ≠ a := (RoadKit.Exa.ne ET E0 (by decide))
  have f10 := (B.2.2.2.1.keep K5 (ninS ne9 nin0))
  have f11 := (ET.keep K5)
  refine C5.static (W := 1) (wd hw 302 rfl) (wd hw 131 rfl) (wd hw 133 rfl) (W132 hw) (by decide) (rm_crC l Z a0 EL G t kb cs h5 C5.old f10 f11 h4) (fun _ => rfl) rfl all0 (by decide) (by decide) (by decide) (by decide) (lenOf pd_285b424949295b42 rfl) rfl (nb rfl) rfl (Y43 18 rfl) (pc' := 35) rfl ?_
  intro vm12 T12 h12 v12 C12 A12 M12 q12
  obtain ⟨d12, kd12, rfl, K12, ge12, zg12, V12⟩ := q12
  have KK13 := (kT (kT (kR h [a]) K5 (allS m0 all0)) K12 all0)
  have f14 := (E0.keep KK13)
  have f15 := (f8.keep K12 nin0)
  have f17 := (f7.keep K12 nin0)
  have f18 := (A12.safe (lL E0.lt K5.1) (A5.safe E0.lt f6))
  refine C12.putF (v := (.ref d12)) (W35 hw) f15 f14 (Or.inr ⟨(W36 hw), rfl, rfl⟩) (W9 hw) (ty := (.array .byte)) (by decide) rfl rfl za f18 (Y43 19 rfl) (pc' := 38) rfl ?_
  intro T16 h16 C16 K16 A16 Wr16
  have f19 := f15.same Wr16
  have f20 := f17.other Wr16 (Or.inr (slot_ne (Or.inr (W34 hw)) (Or.inr (W36 hw)) (by decide) (t := .byte) (t' := (.array .byte)) (by decide) (by decide)))
  refine C16.go (pc' := 97) (Y43 20 rfl) (by decide) rfl ?_
  have ne21 : d12 ≠ a := (Ne.symm (nL (lL (lL E0.lt K5.1) ge12)))
  have f22 := (V12.keep K16 (ninS ne21 nin0))
  have KK23 := (kT (kT (kT (kR h [a]) K5 (allS m0 all0)) K12 all0) K16 (allS m0 all0))
  have f24 := (f14.keep K16)
  exact C16.retV (Y43 21 rfl) (by decide) (by decide) ⟨rfl, d12, kd12, KK23, (lT K5.1 ge12), zg12, ⟨f24, f20, f19, f22, B.2.2.2.2.1, by omega⟩⟩
theorem rm_sisC (G : Glob Z a0 EL) (a b t : Addr) (kb : ClassId) (cs : List Int32) (h : Heap) (O : Ext Z.heap h) (E0 : Exa Z h a "java/lang/String") (F0 : Fld Z h a "java/lang/String" "value" "[B" .null) (F1 : Fld Z h a "java/lang/String" "coder" "B" (.int 0)) (za : Z.heap.size ≤ a) (B : Sb Z h b t kb cs cs.length) (ET : Exa Z h t "[B") (h4 : cs.length ≤ 4) :
    Met l Z EL true ⟨"java/lang/String", "<init>", "(Ljava/lang/StringBuilder;)V"⟩ jdk_42_method_53_code 2 none [] ⟨3, 1, 4, 45⟩ #[(.ref a), (.ref b)] h [a] (fun r h' => r = none ∧ ∃ (d : Addr) (kd : ClassId), Keep h h' [a] ∧ h.size ≤ d ∧ Z.heap.size ≤ d ∧ Str Z h' a d kd cs) := by
  have hw := G.hw
  obtain ⟨vo, So, hvo⟩ := G.fo
  refine Met.of (plainFor_of_name pn_537472696e67_6) G.ew O ?_
  intro p e s m below meth c T0 C0 S0
  refine Endw.eq (g' := mkF m 0 #[.val (.ref a), .val (.ref b)] []) rfl ?_
  refine C0.aL (Y44 0 rfl) rfl rfl (C0.aL (Y44 1 rfl) rfl rfl (C0.nu (Y44 2 rfl) ?_))
  refine C0.special (y := ⟨"java/lang/String", "<init>", "(Ljava/lang/AbstractStringBuilder;Ljava/lang/Void;)V"⟩) (W := 0) rfl (wd hw 285 rfl) (wd hw 286 rfl) (wd hw 287 rfl) (W10 hw) (by decide) (rm_siaC l Z a0 EL G a b t kb cs h C0.old E0 F0 F1 za B ET h4) (fun _ => rfl) rfl (allS ⟨E0.lt, (S0 a (by simp))⟩ all0) (by decide) (by decide) (by decide) (by decide) (lenOf pd_24 rfl) rfl (nb rfl) rfl (Y44 3 rfl) (pc' := 6) rfl ?_
  intro vm1 T1 h1 v1 C1 A1 M1 q1
  obtain ⟨rfl, d1, kd1, K1, ge1, zg1, Z1⟩ := q1
  exact C1.retV (Y44 4 rfl) (by decide) (by decide) ⟨rfl, d1, kd1, K1, ge1, zg1, Z1⟩
theorem rm_tosC (G : Glob Z a0 EL) (b t : Addr) (kb : ClassId) (cs : List Int32) (h : Heap) (O : Ext Z.heap h) (B : Sb Z h b t kb cs cs.length) (ET : Exa Z h t "[B") (h4 : cs.length ≤ 4) :
    Met l Z EL true ⟨"java/lang/StringBuilder", "toString", "()Ljava/lang/String;"⟩ jdk_67_method_42_code 1 (some (.object "java/lang/String")) [] ⟨4, 2, 8, 59⟩ #[(.ref b)] h [] (fun r h' => ∃ (a d : Addr) (kd : ClassId), r = some (.ref a) ∧ Keep h h' [] ∧ h.size ≤ a ∧ Str Z h' a d kd cs) := by
  have hw := G.hw
  obtain ⟨vo, So, hvo⟩ := G.fo
  refine Met.of (plainFor_of_name pn_75696c646572_7) G.ew O ?_
  intro p e s m below meth c T0 C0 S0
  refine Endw.eq (g' := mkF m 0 #[.val (.ref b)] []) rfl ?_
  refine C0.new (wd hw 281 rfl) (W9 hw) (W10 hw) (Y45 0 rfl) (pc' := 3) rfl (by decide) (by decide) ?_
  intro T1 h1 a1 C1 K1 A1 ge1 zg1 E1 D1 S1
  refine C1.du (Y45 1 rfl) rfl (C1.aL (Y45 2 rfl) rfl rfl ?_)
  have f2 := (B.keep K1 nin0 nin0)
  have f3 : Fld Z h1 a1 "java/lang/String" "value" "[B" .null := D1 (Or.inr (W36 hw)) (ty := (.array .byte)) (by decide)
  have f4 : Fld Z h1 a1 "java/lang/String" "coder" "B" (.int 0) := D1 (Or.inr (W34 hw)) (ty := .byte) (by decide)
  have f5 := (ET.keep K1)
  refine C1.special (y := ⟨"java/lang/String", "<init>", "(Ljava/lang/StringBuilder;)V"⟩) (W := 1) rfl (wd hw 282 rfl) (wd hw 283 rfl) (wd hw 284 rfl) (W10 hw) (by decide) (rm_sisC l Z a0 EL G a1 b t kb cs h1 C1.old E1 f3 f4 zg1 f2 f5 h4) (fun _ => rfl) rfl (allS ⟨E1.lt, S1⟩ all0) (by decide) (by decide) (by decide) (by decide) (lenOf pd_40 rfl) rfl (nb rfl) rfl (Y45 3 rfl) (pc' := 8) rfl ?_
  intro vm6 T6 h6 v6 C6 A6 M6 q6
  obtain ⟨rfl, d6, kd6, K6, ge6, zg6, Z6⟩ := q6
  have KK7 := (kT (kT (kR h []) K1 all0) K6 (allS (Or.inr ge1) all0))
  exact C6.retA (t := (.object "java/lang/String")) rfl rfl rfl rfl (Y45 4 rfl) (by decide) (by decide) ⟨a1, d6, kd6, rfl, KK7, ge1, Z6⟩
theorem rm_rds0 (G : Glob Z a0 EL) (a t : Addr) (kb : ClassId) (h : Heap) (O : Ext Z.heap h) (S : Str Z h a t kb []) :
    Met l Z EL true ⟨"com/example/quadrille/quadrille/rdf/BaseIri", "removeDotSegments", "(Ljava/lang/String;)Ljava/lang/String;"⟩ prog_3_method_6_code 6 (some (.object "java/lang/String")) [] ⟨5, 4, 12, 71⟩ #[(.ref a)] h [] (fun r h' => ∃ (z d : Addr) (kd : ClassId), r = some (.ref z) ∧ Keep h h' [] ∧ Str Z h' z d kd []) := by
  have hw := G.hw
  obtain ⟨vo, So, hvo⟩ := G.fo
  refine Met.of (plainFor_of_name pn_617365497269_0) G.ew O ?_
  intro p e s m below meth c T0 C0 S0
  refine Endw.eq (g' := mkF m 0 #[.val (.ref a), .unset, .unset, .unset, .unset, .unset] []) rfl ?_
  refine C0.aL (Y55 0 rfl) rfl rfl ?_
  refine C0.virtual (W := 0) (wd hw 314 rfl) (W61 hw) (fun _ q => notFace_of_selects (args := #[]) (mvT q (W63 hw))) (W63 hw) (W62 hw) (W64 hw) (W10 hw) (by decide) (rm_strLen l Z a0 EL G a t kb [] h C0.old S) (fun _ => rfl) rfl S.1 all0 (by decide) (by decide) (by decide) (by decide) (lenOf pd_282949 rfl) rfl (nb rfl) rfl (Y55 1 rfl) (pc' := 4) rfl ?_
  intro vm1 T1 h1 v1 C1 A1 M1 q1
  obtain ⟨rfl, rfl⟩ := q1
  refine C1.iS (Y55 2 rfl) (l' := #[.val (.ref a), .val (.int 0), .unset, .unset, .unset, .unset]) rfl ?_
  refine C1.new (wd hw 315 rfl) (W207 hw) (W208 hw) (Y55 3 rfl) (pc' := 8) rfl (by decide) (by decide) ?_
  intro T2 h2 a2 C2 K2 A2 ge2 zg2 E2 D2 S2
  refine C2.du (Y55 4 rfl) rfl (C2.iL (Y55 5 rfl) rfl ?_)
  have f3 : Fld Z h2 a2 "java/lang/AbstractStringBuilder" "value" "[B" .null := D2 (Or.inl (W221 hw)) (ty := (.array .byte)) (by decide)
  have f4 : Fld Z h2 a2 "java/lang/AbstractStringBuilder" "coder" "B" (.int 0) := D2 (Or.inl (W223 hw)) (ty := .byte) (by decide)
  have f5 : Fld Z h2 a2 "java/lang/AbstractStringBuilder" "count" "I" (.int 0) := D2 (Or.inl (W236 hw)) (ty := .int) (by decide)
  refine C2.special (y := ⟨"java/lang/StringBuilder", "<init>", "(I)V"⟩) (W := 1) rfl (wd hw 316 rfl) (wd hw 317 rfl) (wd hw 318 rfl) (W208 hw) (by decide) (rm_sbInit0 l Z a0 EL G a2 h2 C2.old E2 f3 f4 f5 zg2) (fun _ => rfl) rfl all0 (by decide) (by decide) (by decide) (by decide) (lenOf pd_28492956 rfl) rfl (nb rfl) rfl (Y55 6 rfl) (pc' := 13) rfl ?_
  intro vm6 T6 h6 v6 C6 A6 M6 q6
  obtain ⟨rfl, t6, kb6, K6, ge6, zg6, Z6, E6⟩ := q6
  refine C6.aS (Y55 7 rfl) rfl (l' := #[.val (.ref a), .val (.int 0), .val (.ref a2), .unset, .unset, .unset]) rfl (C6.ic (z := 0) (Y55 8 rfl) rfl (C6.iS (Y55 9 rfl) (l' := #[.val (.ref a), .val (.int 0), .val (.ref a2), .val (.int 0), .unset, .unset]) rfl (C6.iL (Y55 10 rfl) rfl (C6.iL (Y55 11 rfl) rfl (C6.cY (pc' := 223) (Y55 12 rfl) (XT.ii_ge_t (by decide)) (by decide) rfl (C6.aL (Y55 74 rfl) rfl rfl ?_))))))
  refine C6.virtual (W := 0) (wd hw 361 rfl) (wd hw 277 rfl) (fun _ q => notFace_of_selects (args := #[]) (mvT q (W279 hw))) (W279 hw) (wd hw 278 rfl) (wd hw 280 rfl) (W208 hw) (by decide) (rm_tosC l Z a0 EL G a2 t6 kb6 [] h6 C6.old Z6 E6 (nb rfl)) (fun _ => rfl) rfl Z6.1 all0 (by decide) (by decide) (by decide) (by decide) (lenOf pd_3 rfl) rfl (nb rfl) rfl (Y55 75 rfl) (pc' := 227) rfl ?_
  intro vm7 T7 h7 v7 C7 A7 M7 q7
  obtain ⟨a7, d7, kd7, rfl, K7, ge7, Z7⟩ := q7
  have KK8 := (kT (kT (kT (kR h []) K2 all0) K6 (allS (Or.inr ge2) all0)) K7 all0)
  exact C7.retA (t := (.object "java/lang/String")) rfl rfl rfl rfl (Y55 76 rfl) (by decide) (by decide) ⟨a7, d7, kd7, rfl, KK8, Z7⟩
theorem rm_rds2 (G : Glob Z a0 EL) (a t : Addr) (kb : ClassId) (h : Heap) (O : Ext Z.heap h) (S : Str Z h a t kb [(47 : Int32), (121 : Int32)]) :
    Met l Z EL false ⟨"com/example/quadrille/quadrille/rdf/BaseIri", "removeDotSegments", "(Ljava/lang/String;)Ljava/lang/String;"⟩ prog_3_method_6_code 6 (some (.object "java/lang/String")) [] ⟨5, 20, 126, 71⟩ #[(.ref a)] h [] (fun r h' => ∃ (z d : Addr) (kd : ClassId), r = some (.ref z) ∧ Keep h h' [] ∧ Str Z h' z d kd [(47 : Int32), (121 : Int32)]) := by
  have hw := G.hw
  obtain ⟨vo, So, hvo⟩ := G.fo
  refine Met.of (plainFor_of_name pn_617365497269_0) G.ew O ?_
  intro p e s m below meth c T0 C0 S0
  refine Endw.eq (g' := mkF m 0 #[.val (.ref a), .unset, .unset, .unset, .unset, .unset] []) rfl ?_
  refine C0.aL (Y55 0 rfl) rfl rfl ?_
  refine C0.virtual (W := 0) (wd hw 314 rfl) (W61 hw) (fun _ q => notFace_of_selects (args := #[]) (mvT q (W63 hw))) (W63 hw) (W62 hw) (W64 hw) (W10 hw) (by decide) (rm_strLen l Z a0 EL G a t kb [(47 : Int32), (121 : Int32)] h C0.old S) (fun _ => rfl) rfl S.1 all0 (by decide) (by decide) (by decide) (by decide) (lenOf pd_282949 rfl) rfl (nb rfl) rfl (Y55 1 rfl) (pc' := 4) rfl ?_
  intro vm1 T1 h1 v1 C1 A1 M1 q1
  obtain ⟨rfl, rfl⟩ := q1
  refine C1.iS (Y55 2 rfl) (l' := #[.val (.ref a), .val (.int 2), .unset, .unset, .unset, .unset]) rfl ?_
  refine C1.new (wd hw 315 rfl) (W207 hw) (W208 hw) (Y55 3 rfl) (pc' := 8) rfl (by decide) (by decide) ?_
  intro T2 h2 a2 C2 K2 A2 ge2 zg2 E2 D2 S2
  refine C2.du (Y55 4 rfl) rfl (C2.iL (Y55 5 rfl) rfl ?_)
  have f3 : Fld Z h2 a2 "java/lang/AbstractStringBuilder" "value" "[B" .null := D2 (Or.inl (W221 hw)) (ty := (.array .byte)) (by decide)
  have f4 : Fld Z h2 a2 "java/lang/AbstractStringBuilder" "coder" "B" (.int 0) := D2 (Or.inl (W223 hw)) (ty := .byte) (by decide)
  have f5 : Fld Z h2 a2 "java/lang/AbstractStringBuilder" "count" "I" (.int 0) := D2 (Or.inl (W236 hw)) (ty := .int) (by decide)
  refine C2.special (y := ⟨"java/lang/StringBuilder", "<init>", "(I)V"⟩) (W := 1) rfl (wd hw 316 rfl) (wd hw 317 rfl) (wd hw 318 rfl) (W208 hw) (by decide) (rm_sbInit2 l Z a0 EL G a2 h2 C2.old E2 f3 f4 f5 zg2) (fun _ => rfl) rfl all0 (by decide) (by decide) (by decide) (by decide) (lenOf pd_28492956 rfl) rfl (nb rfl) rfl (Y55 6 rfl) (pc' := 13) rfl ?_
  intro vm6 T6 h6 v6 C6 A6 M6 q6
  obtain ⟨rfl, t6, kb6, K6, ge6, zg6, Z6, E6⟩ := q6
  refine C6.aS (Y55 7 rfl) rfl (l' := #[.val (.ref a), .val (.int 2), .val (.ref a2), .unset, .unset, .unset]) rfl (C6.ic (z := 0) (Y55 8 rfl) rfl (C6.iS (Y55 9 rfl) (l' := #[.val (.ref a), .val (.int 2), .val (.ref a2), .val (.int 0), .unset, .unset]) rfl (C6.iL (Y55 10 rfl) rfl (C6.iL (Y55 11 rfl) rfl (C6.cN (Y55 12 rfl) (XT.ii_ge_f (by decide)) (C6.aL (Y55 13 rfl) rfl rfl ?_))))))
  refine C6.ldcC (N := 12) (vs := (bys [(46 : Int32), (46 : Int32), (47 : Int32)])) (z := (3 : Int32)) (W319 hw) G.wS (by rw [G.el]; decide) ⟨by decide, by decide⟩ (by decide) (by decide) (by decide) (by decide) (by decide) (by decide) (Y55 14 rfl) (pc' := 24) rfl rfl ?_
  intro vm7 T7 h7 a7 b7 kA7 C7 K7 A7 E7 F7 f7 V7 r7
  have f9 := (A7.safe Z6.2.2.2.1.lt (own_safe_new (M6 rfl) ge6))
  have Z7 : Str Z h7 a7 b7 kA7 [(46 : Int32), (46 : Int32), (47 : Int32)] := ⟨E7, F7, f7, V7, (own_cS ⟨by decide, by decide⟩ (own_cS ⟨by decide, by decide⟩ (own_cS ⟨by decide, by decide⟩ own_c0))), by decide⟩
  refine C7.iL (Y55 15 rfl) rfl ?_
  have KK10 := (kT (kT (kT (kR h []) K2 all0) K6 (allS (Or.inr ge2) all0)) K7 all0)
  have f11 := (S.keep KK10 nin0 nin0)
  have f13 := (S.1.keep KK10)
  refine C7.virtual (W := 0) (W320 hw) (W109 hw) (fun _ q => notFace_of_selects (args := #[]) (mvT q (W111 hw))) (W111 hw) (W110 hw) (W112 hw) (W10 hw) (by decide) (rm_sw2 l Z a0 EL G a t kb [(47 : Int32), (121 : Int32)] a7 b7 kA7 [(46 : Int32), (46 : Int32), (47 : Int32)] 0 h7 C7.old f11 Z7 (Nat.zero_le _) (nb rfl)) (fun _ => rfl) rfl f13 all0 (by decide) (by decide) (by decide) (by decide) (lenOf pd_35 rfl) rfl (nb rfl) rfl (Y55 16 rfl) (pc' := 28) rfl ?_
  intro vm12 T12 h12 v12 C12 A12 M12 q12
  rw [show (own_sw [(46 : Int32), (46 : Int32), (47 : Int32)] ([(47 : Int32), (121 : Int32)].drop 0)) = (0 : Int32) from by decide] at q12
  obtain ⟨rfl, rfl⟩ := q12
  refine C12.fY (pc' := 37) (Y55 17 rfl) (XT.i0_eq_t (by decide)) (by decide) rfl (C12.aL (Y55 18 rfl) rfl rfl ?_)
  refine C12.ldcC (N := 8) (vs := (bys [(46 : Int32), (47 : Int32)])) (z := (2 : Int32)) (W321 hw) G.wS (by rw [G.el]; decide) ⟨by decide, by decide⟩ (by decide) (by decide) (by decide) (by decide) (by decide) (by decide) (Y55 19 rfl) (pc' := 40) rfl rfl ?_
  intro vm14 T14 h14 a14 b14 kA14 C14 K14 A14 E14 F14 f14 V14 r14
  have f16 := (A14.safe (lL Z6.2.2.2.1.lt K7.1) (A12.safe (lL Z6.2.2.2.1.lt K7.1) f9))
  have Z14 : Str Z h14 a14 b14 kA14 [(46 : Int32), (47 : Int32)] := ⟨E14, F14, f14, V14, (own_cS ⟨by decide, by decide⟩ (own_cS ⟨by decide, by decide⟩ own_c0)), by decide⟩
  refine C14.iL (Y55 20 rfl) rfl ?_
  have f17 := (f11.keep K14 nin0 nin0)
  have f19 := (f13.keep K14)
  refine C14.virtual (W := 0) (W320 hw) (W109 hw) (fun _ q => notFace_of_selects (args := #[]) (mvT q (W111 hw))) (W111 hw) (W110 hw) (W112 hw) (W10 hw) (by decide) (rm_sw2 l Z a0 EL G a t kb [(47 : Int32), (121 : Int32)] a14 b14 kA14 [(46 : Int32), (47 : Int32)] 0 h14 C14.old f17 Z14 (Nat.zero_le _) (nb rfl)) (fun _ => rfl) rfl f19 all0 (by decide) (by decide) (by decide) (by decide) (lenOf pd_35 rfl) rfl (nb rfl) rfl (Y55 21 rfl) (pc' := 44) rfl ?_
  intro vm18 T18 h18 v18 C18 A18 M18 q18
  rw [show (own_sw [(46 : Int32), (47 : Int32)] ([(47 : Int32), (121 : Int32)].drop 0)) = (0 : Int32) from by decide] at q18
  obtain ⟨rfl, rfl⟩ := q18
  refine C18.fN (Y55 22 rfl) (XT.i0_ne_f (by decide)) (C18.aL (Y55 23 rfl) rfl rfl ?_)
  refine C18.ldcC (N := 12) (vs := (bys [(47 : Int32), (46 : Int32), (47 : Int32)])) (z := (3 : Int32)) (W322 hw) G.wS (by rw [G.el]; decide) ⟨by decide, by decide⟩ (by decide) (by decide) (by decide) (by decide) (by decide) (by decide) (Y55 24 rfl) (pc' := 50) rfl rfl ?_
  intro vm20 T20 h20 a20 b20 kA20 C20 K20 A20 E20 F20 f20 V20 r20
  have f22 := (A20.safe (lL Z6.2.2.2.1.lt (lT K7.1 K14.1)) (A18.safe (lL Z6.2.2.2.1.lt (lT K7.1 K14.1)) f16))
  have Z20 : Str Z h20 a20 b20 kA20 [(47 : Int32), (46 : Int32), (47 : Int32)] := ⟨E20, F20, f20, V20, (own_cS ⟨by decide, by decide⟩ (own_cS ⟨by decide, by decide⟩ (own_cS ⟨by decide, by decide⟩ own_c0))), by decide⟩
  refine C20.iL (Y55 25 rfl) rfl ?_
  have f23 := (f17.keep K20 nin0 nin0)
  have f25 := (f19.keep K20)
  refine C20.virtual (W := 0) (W320 hw) (W109 hw) (fun _ q => notFace_of_selects (args := #[]) (mvT q (W111 hw))) (W111 hw) (W110 hw) (W112 hw) (W10 hw) (by decide) (rm_sw2 l Z a0 EL G a t kb [(47 : Int32), (121 : Int32)] a20 b20 kA20 [(47 : Int32), (46 : Int32), (47 : Int32)] 0 h20 C20.old f23 Z20 (Nat.zero_le _) (nb rfl)) (fun _ => rfl) rfl f25 all0 (by decide) (by decide) (by decide) (by decide) (lenOf pd_35 rfl) rfl (nb rfl) rfl (Y55 26 rfl) (pc' := 54) rfl ?_
  intro vm24 T24 h24 v24 C24 A24 M24 q24
  rw [show (own_sw [(47 : Int32), (46 : Int32), (47 : Int32)] ([(47 : Int32), (121 : Int32)].drop 0)) = (0 : Int32) from by decide] at q24
  obtain ⟨rfl, rfl⟩ := q24
  refine C24.fY (pc' := 63) (Y55 27 rfl) (XT.i0_eq_t (by decide)) (by decide) rfl (C24.aL (Y55 28 rfl) rfl rfl ?_)
  refine C24.ldcC (N := 8) (vs := (bys [(47 : Int32), (46 : Int32)])) (z := (2 : Int32)) (W323 hw) G.wS (by rw [G.el]; decide) ⟨by decide, by decide⟩ (by decide) (by decide) (by decide) (by decide) (by decide) (by decide) (Y55 29 rfl) (pc' := 66) rfl rfl ?_
  intro vm26 T26 h26 a26 b26 kA26 C26 K26 A26 E26 F26 f26 V26 r26
  have f28 := (A26.safe (lL Z6.2.2.2.1.lt (lT K7.1 (lT K14.1 K20.1))) (A24.safe (lL Z6.2.2.2.1.lt (lT K7.1 (lT K14.1 K20.1))) f22))
  have Z26 : Str Z h26 a26 b26 kA26 [(47 : Int32), (46 : Int32)] := ⟨E26, F26, f26, V26, (own_cS ⟨by decide, by decide⟩ (own_cS ⟨by decide, by decide⟩ own_c0)), by decide⟩
  refine C26.iL (Y55 30 rfl) rfl ?_
  have f29 := (f23.keep K26 nin0 nin0)
  have f31 := (f25.keep K26)
  refine C26.virtual (W := 0) (W320 hw) (W109 hw) (fun _ q => notFace_of_selects (args := #[]) (mvT q (W111 hw))) (W111 hw) (W110 hw) (W112 hw) (W10 hw) (by decide) (rm_sw2 l Z a0 EL G a t kb [(47 : Int32), (121 : Int32)] a26 b26 kA26 [(47 : Int32), (46 : Int32)] 0 h26 C26.old f29 Z26 (Nat.zero_le _) (nb rfl)) (fun _ => rfl) rfl f31 all0 (by decide) (by decide) (by decide) (by decide) (lenOf pd_35 rfl) rfl (nb rfl) rfl (Y55 31 rfl) (pc' := 70) rfl ?_
  intro vm30 T30 h30 v30 C30 A30 M30 q30
  rw [show (own_sw [(47 : Int32), (46 : Int32)] ([(47 : Int32), (121 : Int32)].drop 0)) = (0 : Int32) from by decide] at q30
  obtain ⟨rfl, rfl⟩ := q30
  refine C30.fY (pc' := 92) (Y55 32 rfl) (XT.i0_eq_t (by decide)) (by decide) rfl (C30.aL (Y55 33 rfl) rfl rfl ?_)
  refine C30.ldcC (N := 16) (vs := (bys [(47 : Int32), (46 : Int32), (46 : Int32), (47 : Int32)])) (z := (4 : Int32)) (W324 hw) G.wS (by rw [G.el]; decide) ⟨by decide, by decide⟩ (by decide) (by decide) (by decide) (by decide) (by decide) (by decide) (Y55 34 rfl) (pc' := 95) rfl rfl ?_
  intro vm32 T32 h32 a32 b32 kA32 C32 K32 A32 E32 F32 f32 V32 r32
  have f34 := (A32.safe (lL Z6.2.2.2.1.lt (lT K7.1 (lT K14.1 (lT K20.1 K26.1)))) (A30.safe (lL Z6.2.2.2.1.lt (lT K7.1 (lT K14.1 (lT K20.1 K26.1)))) f28))
  have Z32 : Str Z h32 a32 b32 kA32 [(47 : Int32), (46 : Int32), (46 : Int32), (47 : Int32)] := ⟨E32, F32, f32, V32, (own_cS ⟨by decide, by decide⟩ (own_cS ⟨by decide, by decide⟩ (own_cS ⟨by decide, by decide⟩ (own_cS ⟨by decide, by decide⟩ own_c0)))), by decide⟩
  refine C32.iL (Y55 35 rfl) rfl ?_
  have f35 := (f29.keep K32 nin0 nin0)
  have f37 := (f31.keep K32)
  refine C32.virtual (W := 0) (W320 hw) (W109 hw) (fun _ q => notFace_of_selects (args := #[]) (mvT q (W111 hw))) (W111 hw) (W110 hw) (W112 hw) (W10 hw) (by decide) (rm_sw2 l Z a0 EL G a t kb [(47 : Int32), (121 : Int32)] a32 b32 kA32 [(47 : Int32), (46 : Int32), (46 : Int32), (47 : Int32)] 0 h32 C32.old f35 Z32 (Nat.zero_le _) (nb rfl)) (fun _ => rfl) rfl f37 all0 (by decide) (by decide) (by decide) (by decide) (lenOf pd_35 rfl) rfl (nb rfl) rfl (Y55 36 rfl) (pc' := 99) rfl ?_
  intro vm36 T36 h36 v36 C36 A36 M36 q36
  rw [show (own_sw [(47 : Int32), (46 : Int32), (46 : Int32), (47 : Int32)] ([(47 : Int32), (121 : Int32)].drop 0)) = (0 : Int32) from by decide] at q36
  obtain ⟨rfl, rfl⟩ := q36
  refine C36.fY (pc' := 112) (Y55 37 rfl) (XT.i0_eq_t (by decide)) (by decide) rfl (C36.aL (Y55 38 rfl) rfl rfl ?_)
  refine C36.ldcC (N := 12) (vs := (bys [(47 : Int32), (46 : Int32), (46 : Int32)])) (z := (3 : Int32)) (W325 hw) G.wS (by rw [G.el]; decide) ⟨by decide, by decide⟩ (by decide) (by decide) (by decide) (by decide) (by decide) (by decide) (Y55 39 rfl) (pc' := 115) rfl rfl ?_
  intro vm38 T38 h38 a38 b38 kA38 C38 K38 A38 E38 F38 f38 V38 r38
  have f40 := (A38.safe (lL Z6.2.2.2.1.lt (lT K7.1 (lT K14.1 (lT K20.1 (lT K26.1 K32.1))))) (A36.safe (lL Z6.2.2.2.1.lt (lT K7.1 (lT K14.1 (lT K20.1 (lT K26.1 K32.1))))) f34))
  have Z38 : Str Z h38 a38 b38 kA38 [(47 : Int32), (46 : Int32), (46 : Int32)] := ⟨E38, F38, f38, V38, (own_cS ⟨by decide, by decide⟩ (own_cS ⟨by decide, by decide⟩ (own_cS ⟨by decide, by decide⟩ own_c0))), by decide⟩
  refine C38.iL (Y55 40 rfl) rfl ?_
  have f41 := (f35.keep K38 nin0 nin0)
  have f43 := (f37.keep K38)
  refine C38.virtual (W := 0) (W320 hw) (W109 hw) (fun _ q => notFace_of_selects (args := #[]) (mvT q (W111 hw))) (W111 hw) (W110 hw) (W112 hw) (W10 hw) (by decide) (rm_sw2 l Z a0 EL G a t kb [(47 : Int32), (121 : Int32)] a38 b38 kA38 [(47 : Int32), (46 : Int32), (46 : Int32)] 0 h38 C38.old f41 Z38 (Nat.zero_le _) (nb rfl)) (fun _ => rfl) rfl f43 all0 (by decide) (by decide) (by decide) (by decide) (lenOf pd_35 rfl) rfl (nb rfl) rfl (Y55 41 rfl) (pc' := 119) rfl ?_
  intro vm42 T42 h42 v42 C42 A42 M42 q42
  rw [show (own_sw [(47 : Int32), (46 : Int32), (46 : Int32)] ([(47 : Int32), (121 : Int32)].drop 0)) = (0 : Int32) from by decide] at q42
  obtain ⟨rfl, rfl⟩ := q42
  refine C42.fY (pc' := 145) (Y55 42 rfl) (XT.i0_eq_t (by decide)) (by decide) rfl (C42.aL (Y55 43 rfl) rfl rfl ?_)
  refine C42.ldcC (N := 4) (vs := (bys [(46 : Int32)])) (z := (1 : Int32)) (W326 hw) G.wS (by rw [G.el]; decide) ⟨by decide, by decide⟩ (by decide) (by decide) (by decide) (by decide) (by decide) (by decide) (Y55 44 rfl) (pc' := 148) rfl rfl ?_
  intro vm44 T44 h44 a44 b44 kA44 C44 K44 A44 E44 F44 f44 V44 r44
  have f46 := (A44.safe (lL Z6.2.2.2.1.lt (lT K7.1 (lT K14.1 (lT K20.1 (lT K26.1 (lT K32.1 K38.1)))))) (A42.safe (lL Z6.2.2.2.1.lt (lT K7.1 (lT K14.1 (lT K20.1 (lT K26.1 (lT K32.1 K38.1)))))) f40))
  have Z44 : Str Z h44 a44 b44 kA44 [(46 : Int32)] := ⟨E44, F44, f44, V44, (own_cS ⟨by decide, by decide⟩ own_c0), by decide⟩
  refine C44.iL (Y55 45 rfl) rfl ?_
  have f47 := (f41.keep K44 nin0 nin0)
  have f49 := (f43.keep K44)
  refine C44.virtual (W := 0) (W320 hw) (W109 hw) (fun _ q => notFace_of_selects (args := #[]) (mvT q (W111 hw))) (W111 hw) (W110 hw) (W112 hw) (W10 hw) (by decide) (rm_sw2 l Z a0 EL G a t kb [(47 : Int32), (121 : Int32)] a44 b44 kA44 [(46 : Int32)] 0 h44 C44.old f47 Z44 (Nat.zero_le _) (nb rfl)) (fun _ => rfl) rfl f49 all0 (by decide) (by decide) (by decide) (by decide) (lenOf pd_35 rfl) rfl (nb rfl) rfl (Y55 46 rfl) (pc' := 152) rfl ?_
  intro vm48 T48 h48 v48 C48 A48 M48 q48
  rw [show (own_sw [(46 : Int32)] ([(47 : Int32), (121 : Int32)].drop 0)) = (0 : Int32) from by decide] at q48
  obtain ⟨rfl, rfl⟩ := q48
  refine C48.fY (pc' := 162) (Y55 47 rfl) (XT.i0_eq_t (by decide)) (by decide) rfl (C48.aL (Y55 48 rfl) rfl rfl ?_)
  refine C48.ldcC (N := 8) (vs := (bys [(46 : Int32), (46 : Int32)])) (z := (2 : Int32)) (W327 hw) G.wS (by rw [G.el]; decide) ⟨by decide, by decide⟩ (by decide) (by decide) (by decide) (by decide) (by decide) (by decide) (Y55 49 rfl) (pc' := 165) rfl rfl ?_
  intro vm50 T50 h50 a50 b50 kA50 C50 K50 A50 E50 F50 f50 V50 r50
  have f52 := (A50.safe (lL Z6.2.2.2.1.lt (lT K7.1 (lT K14.1 (lT K20.1 (lT K26.1 (lT K32.1 (lT K38.1 K44.1))))))) (A48.safe (lL Z6.2.2.2.1.lt (lT K7.1 (lT K14.1 (lT K20.1 (lT K26.1 (lT K32.1 (lT K38.1 K44.1))))))) f46))
  have Z50 : Str Z h50 a50 b50 kA50 [(46 : Int32), (46 : Int32)] := ⟨E50, F50, f50, V50, (own_cS ⟨by decide, by decide⟩ (own_cS ⟨by decide, by decide⟩ own_c0)), by decide⟩
  refine C50.iL (Y55 50 rfl) rfl ?_
  have f53 := (f47.keep K50 nin0 nin0)
  have f55 := (f49.keep K50)
  refine C50.virtual (W := 0) (W320 hw) (W109 hw) (fun _ q => notFace_of_selects (args := #[]) (mvT q (W111 hw))) (W111 hw) (W110 hw) (W112 hw) (W10 hw) (by decide) (rm_sw2 l Z a0 EL G a t kb [(47 : Int32), (121 : Int32)] a50 b50 kA50 [(46 : Int32), (46 : Int32)] 0 h50 C50.old f53 Z50 (Nat.zero_le _) (nb rfl)) (fun _ => rfl) rfl f55 all0 (by decide) (by decide) (by decide) (by decide) (lenOf pd_35 rfl) rfl (nb rfl) rfl (Y55 51 rfl) (pc' := 169) rfl ?_
  intro vm54 T54 h54 v54 C54 A54 M54 q54
  rw [show (own_sw [(46 : Int32), (46 : Int32)] ([(47 : Int32), (121 : Int32)].drop 0)) = (0 : Int32) from by decide] at q54
  obtain ⟨rfl, rfl⟩ := q54
  refine C54.fY (pc' := 184) (Y55 52 rfl) (XT.i0_eq_t (by decide)) (by decide) rfl (C54.aL (Y55 53 rfl) rfl rfl (C54.bi (z := 47) (Y55 54 rfl) rfl (C54.iL (Y55 55 rfl) rfl (C54.ic (z := 1) (Y55 56 rfl) rfl (C54.ad (z := 1) (Y55 57 rfl) rfl ?_)))))
  refine C54.virtual (W := 0) (wd hw 328 rfl) (wd hw 51 rfl) (fun _ q => notFace_of_selects (args := #[]) (mvT q (W53 hw))) (W53 hw) (wd hw 52 rfl) (wd hw 54 rfl) (W10 hw) (by decide) (rm_ix2 l Z a0 EL G a t kb [(47 : Int32), (121 : Int32)] (47 : Int32) 1 h50 C54.old f53 ⟨by decide, by decide⟩ (by decide)) (fun _ => rfl) rfl f55 all0 (by decide) (by decide) (by decide) (by decide) (lenOf pd_2849492949 rfl) rfl (nb rfl) rfl (Y55 58 rfl) (pc' := 193) rfl ?_
  intro vm56 T56 h56 v56 C56 A56 M56 q56
  obtain ⟨z56, rfl, e56, rfl⟩ := q56
  obtain rfl : z56 = -1 := (own_fndC e56).elim (fun q => absurd q.1 (by decide)) (fun q => q.2)
  show Endw p e below T56 (mkF m 193 #[.val (.ref a), .val (.int 2), .val (.ref a2), .val (.int 0), .unset, .unset] [(.int (-1))]) _
  refine C56.iSk (Y55 59 rfl) (l' := #[.val (.ref a), .val (.int 2), .val (.ref a2), .val (.int 0), .val (.int (-1)), .unset]) rfl (C56.iLk (Y55 60 rfl) rfl (C56.fN (Y55 61 rfl) (XT.i0_ge_f (by decide)) (C56.iL (Y55 62 rfl) rfl (C56.go (pc' := 206) (Y55 63 rfl) (by decide) rfl (C56.iSk (Y55 64 rfl) (l' := #[.val (.ref a), .val (.int 2), .val (.ref a2), .val (.int 0), .val (.int (-1)), .val (.int 2)]) rfl (C56.aL (Y55 65 rfl) rfl rfl (C56.aL (Y55 66 rfl) rfl rfl (C56.iL (Y55 67 rfl) rfl (C56.iLk (Y55 68 rfl) rfl ?_)))))))))
  have KK57 := (kT (kT (kT (kT (kT (kT (kT (kT (kR h6 []) K7 all0) K14 all0) K20 all0) K26 all0) K32 all0) K38 all0) K44 all0) K50 all0)
  have f58 := (Z6.keep KK57 nin0 nin0)
  have f60 := (A56.safe (lL Z6.2.2.2.1.lt (lT K7.1 (lT K14.1 (lT K20.1 (lT K26.1 (lT K32.1 (lT K38.1 (lT K44.1 K50.1)))))))) (A54.safe (lL Z6.2.2.2.1.lt (lT K7.1 (lT K14.1 (lT K20.1 (lT K26.1 (lT K32.1 (lT K38.1 (lT K44.1 K50.1)))))))) f52))
  have f61 := (Z6.1.keep KK57)
  refine C56.virtual (W := 0) (wd hw 329 rfl) (wd hw 330 rfl) (fun _ q => notFace_of_selects (args := #[]) (mvT q (wd hw 332 rfl))) (wd hw 332 rfl) (wd hw 331 rfl) (wd hw 333 rfl) (W208 hw) (by decide) (rm_sbAppS l Z a0 EL G a2 t6 kb6 a t kb h50 C56.old f58 f53 zg2 zg6) (fun _ => rfl) rfl f61 (allS ⟨(lL Z6.2.2.2.1.lt KK57.1), f60⟩ all0) (by decide) (by decide) (by decide) (by decide) (lenOf pd_26 rfl) rfl (nb rfl) rfl (Y55 69 rfl) (pc' := 216) rfl ?_
  intro vm59 T59 h59 v59 C59 A59 M59 q59
  obtain ⟨rfl, K59, Z59⟩ := q59
  refine Endw.st (T' := T59) (g' := (mkF m 217 #[.val (.ref a), .val (.int 2), .val (.ref a2), .val (.int 0), .val (.int (-1)), .val (.int 2)] [])) (fun _ k_ => XS.pop C59.here C59.hx rfl (C59.dec (Y55 70 rfl)) rfl rfl k_) ?_
  refine C59.iLk (Y55 71 rfl) rfl (C59.iS (Y55 72 rfl) (l' := #[.val (.ref a), .val (.int 2), .val (.ref a2), .val (.int 2), .val (.int (-1)), .val (.int 2)]) rfl (C59.go (pc' := 16) (Y55 73 rfl) (by decide) rfl (C59.iL (Y55 10 rfl) rfl (C59.iL (Y55 11 rfl) rfl (C59.cY (pc' := 223) (Y55 12 rfl) (XT.ii_ge_t (by decide)) (by decide) rfl (C59.aL (Y55 74 rfl) rfl rfl ?_))))))
  have KK62 := (kT (kT (kR h6 [a2, t6]) KK57 all0) K59 (allS m0 (allS m1 all0)))
  have f63 := (E6.keep KK62)
  refine C59.virtual (W := 0) (wd hw 361 rfl) (wd hw 277 rfl) (fun _ q => notFace_of_selects (args := #[]) (mvT q (W279 hw))) (W279 hw) (wd hw 278 rfl) (wd hw 280 rfl) (W208 hw) (by decide) (rm_tosC l Z a0 EL G a2 t6 kb6 [(47 : Int32), (121 : Int32)] h59 C59.old Z59 f63 (nb rfl)) (fun _ => rfl) rfl Z59.1 all0 (by decide) (by decide) (by decide) (by decide) (lenOf pd_3 rfl) rfl (nb rfl) rfl (Y55 75 rfl) (pc' := 227) rfl ?_
  intro vm64 T64 h64 v64 C64 A64 M64 q64
  obtain ⟨a64, d64, kd64, rfl, K64, ge64, Z64⟩ := q64
  have KK65 := (kT (kT (kT (kT (kT (kT (kT (kT (kT KK10 K14 all0) K20 all0) K26 all0) K32 all0) K38 all0) K44 all0) K50 all0) K59 (allS (Or.inr ge2) (allS (Or.inr (lT K2.1 ge6)) all0))) K64 all0)
  exact C64.retA (t := (.object "java/lang/String")) rfl rfl rfl rfl (Y55 76 rfl) (by decide) (by decide) ⟨a64, d64, kd64, rfl, KK65, Z64⟩
theorem rm_tgt0 (G : Glob Z a0 EL) (a b : Addr) (sc : List Int32) (au : Option (List Int32)) (pa : List Int32) (qu fr : Option (List Int32)) (x : Addr) (h : Heap) (O : Ext Z.heap h) (E0 : Exa Z h a "com/example/quadrille/quadrille/rdf/BaseIri") (F0 : Fld Z h a "com/example/quadrille/quadrille/rdf/BaseIri" "base" "Lcom/example/quadrille/quadrille/rdf/BaseIri$Components;" (.ref b)) (M : Cmp Z h b (some sc) au pa qu fr) (N : Cmp Z h x none none [] none none) :
    Met l Z EL true ⟨"com/example/quadrille/quadrille/rdf/BaseIri", "target", "(Lcom/example/quadrille/quadrille/rdf/BaseIri$Components;)Lcom/example/quadrille/quadrille/rdf/BaseIri$Components;"⟩ prog_3_method_4_code 5 (some (.object "com/example/quadrille/quadrille/rdf/BaseIri$Components")) [] ⟨2, 1, 5, 30⟩ #[(.ref a), (.ref x)] h [] (fun r h' => ∃ z : Addr, r = some (.ref z) ∧ Keep h h' [] ∧ h.size ≤ z ∧ Cmp Z h' z (some sc) au pa qu none) := by
  have hw := G.hw
  obtain ⟨vo, So, hvo⟩ := G.fo
  refine Met.of (plainFor_of_name pn_617365497269_0) G.ew O ?_
  intro p e s m below meth c T0 C0 S0
  refine Endw.eq (g' := mkF m 0 #[.val (.ref a), .val (.ref x), .unset, .unset, .unset] []) rfl ?_
  obtain ⟨u0_1, u1_1, s2_1, t2_1, k2_1, u3_1, u4_1, E_1, F0_1, F1_1, F2_1, F3_1, F4_1, O0_1, O1_1, S2_1, O3_1, O4_1⟩ := id M
  obtain ⟨s0_1, t0_1, k0_1, rfl, S0_1⟩ := OS.isSome O0_1
  obtain ⟨u0_2, u1_2, s2_2, t2_2, k2_2, u3_2, u4_2, E_2, F0_2, F1_2, F2_2, F3_2, F4_2, O0_2, O1_2, S2_2, O3_2, O4_2⟩ := id N
  obtain rfl : u0_2 = .null := OS.isNone O0_2
  obtain rfl : u1_2 = .null := OS.isNone O1_2
  obtain rfl : u3_2 = .null := OS.isNone O3_2
  obtain rfl : u4_2 = .null := OS.isNone O4_2
  refine C0.aL (Y56 0 rfl) rfl rfl ?_
  refine C0.getFR (W183 hw) F1_2 (Y56 1 rfl) (pc' := 4) rfl ?_
  refine Endw.st (T' := T0) (g' := (mkF m 29 #[.val (.ref a), .val (.ref x), .unset, .unset, .unset] [])) (fun _ k_ => XS.ifnullYes C0.here C0.hx rfl (pc0 := 4) rfl (C0.dec (Y56 2 rfl)) rfl (by decide) rfl k_) ?_
  refine C0.aL (Y56 14 rfl) rfl rfl ?_
  refine C0.getFR (W184 hw) F2_2 (Y56 15 rfl) (pc' := 33) rfl ?_
  refine C0.virtual (W := 0) (wd hw 185 rfl) (wd hw 186 rfl) (fun _ q => notFace_of_selects (args := #[]) (mvT q (wd hw 188 rfl))) (wd hw 188 rfl) (wd hw 187 rfl) (wd hw 189 rfl) (W10 hw) (by decide) (rm_isEmpty l Z a0 EL G s2_2 t2_2 k2_2 [] h C0.old S2_2) (fun _ => rfl) rfl S2_2.1 all0 (by decide) (by decide) (by decide) (by decide) (lenOf pd_28295a rfl) rfl (nb rfl) rfl (Y56 16 rfl) (pc' := 36) rfl ?_
  intro vm5 T5 h5 v5 C5 A5 M5 q5
  rw [show (if (Int32.ofNat [].length) = (0 : Int32) then (1 : Int32) else 0) = (1 : Int32) from rfl] at q5
  obtain ⟨rfl, rfl⟩ := q5
  refine C5.fN (Y56 17 rfl) (XT.i0_eq_f (by decide)) (C5.aL (Y56 18 rfl) rfl rfl ?_)
  refine C5.getF (W171 hw) F0 (Y56 19 rfl) (pc' := 43) rfl ?_
  intro T6 C6
  refine C6.getFR (W183 hw) F1_1 (Y56 20 rfl) (pc' := 46) rfl ?_
  refine Endw.st (T' := T6) (g' := (mkF m 47 #[.val (.ref a), .val (.ref x), .val u1_1, .unset, .unset] [])) (fun _ k_ => XT.astoreNS C6.here C6.hx rfl (C6.dec (Y56 21 rfl)) rfl (OS.ref O1_1) (XT.cat1 (OS.ref O1_1)) rfl (by first | exact Or.inl rfl | exact Or.inr ⟨_, rfl, rfl⟩) k_) ?_
  refine C6.aL (Y56 22 rfl) rfl rfl ?_
  refine C6.getF (W171 hw) F0 (Y56 23 rfl) (pc' := 51) rfl ?_
  intro T8 C8
  refine C8.getFR (W184 hw) F2_1 (Y56 24 rfl) (pc' := 54) rfl ?_
  refine C8.aS (Y56 25 rfl) rfl (l' := #[.val (.ref a), .val (.ref x), .val u1_1, .val (.ref s2_1), .unset]) rfl (C8.aL (Y56 26 rfl) rfl rfl ?_)
  refine C8.getFR (wd hw 190 rfl) F3_2 (Y56 27 rfl) (pc' := 59) rfl ?_
  refine Endw.st (T' := T8) (g' := (mkF m 69 #[.val (.ref a), .val (.ref x), .val u1_1, .val (.ref s2_1), .unset] [])) (fun _ k_ => XS.ifnullYes C8.here C8.hx rfl (pc0 := 59) rfl (C8.dec (Y56 28 rfl)) rfl (by decide) rfl k_) ?_
  refine C8.aL (Y56 32 rfl) rfl rfl ?_
  refine C8.getF (W171 hw) F0 (Y56 33 rfl) (pc' := 73) rfl ?_
  intro T11 C11
  refine C11.getFR (wd hw 190 rfl) F3_1 (Y56 34 rfl) (pc' := 76) rfl ?_
  refine Endw.st (T' := T11) (g' := (mkF m 78 #[.val (.ref a), .val (.ref x), .val u1_1, .val (.ref s2_1), .val u3_1] [])) (fun _ k_ => XS.astoreS C11.here C11.hx rfl (C11.dec (Y56 35 rfl)) rfl (OS.ref O3_1) (XT.cat1 (OS.ref O3_1)) rfl (by first | exact Or.inl rfl | exact Or.inr ⟨_, rfl, rfl⟩) k_) ?_
  refine C11.go (pc' := 144) (Y56 36 rfl) (by decide) rfl ?_
  refine C11.new (wd hw 191 rfl) (W114 hw) (W43 hw) (Y56 54 rfl) (pc' := 147) rfl (by decide) (by decide) ?_
  intro T13 h13 a13 C13 K13 A13 ge13 zg13 E13 D13 S13
  refine C13.du (Y56 55 rfl) rfl (C13.aL (Y56 56 rfl) rfl rfl ?_)
  have f14 := (F0.keep K13 nin0)
  refine C13.getF (W171 hw) f14 (Y56 57 rfl) (pc' := 152) rfl ?_
  intro T15 C15
  have f16 := (F0_1.keep K13 nin0)
  refine C15.getFR (W162 hw) f16 (Y56 58 rfl) (pc' := 155) rfl ?_
  refine C15.aL (Y56 59 rfl) rfl (OS.ref O1_1) (C15.aL (Y56 60 rfl) rfl rfl (C15.aLk (Y56 61 rfl) rfl (OS.ref O3_1) (C15.aL (Y56 62 rfl) rfl rfl ?_)))
  have f18 := (F4_2.keep K13 nin0)
  refine C15.getFR (wd hw 192 rfl) f18 (Y56 63 rfl) (pc' := 163) rfl ?_
  have f20 : Fld Z h13 a13 "com/example/quadrille/quadrille/rdf/BaseIri$Components" "scheme" "Ljava/lang/String;" .null := D13 (Or.inr (W153 hw)) (ty := (.object "java/lang/String")) (by decide)
  have f21 : Fld Z h13 a13 "com/example/quadrille/quadrille/rdf/BaseIri$Components" "authority" "Ljava/lang/String;" .null := D13 (Or.inr (W155 hw)) (ty := (.object "java/lang/String")) (by decide)
  have f22 : Fld Z h13 a13 "com/example/quadrille/quadrille/rdf/BaseIri$Components" "path" "Ljava/lang/String;" .null := D13 (Or.inr (W157 hw)) (ty := (.object "java/lang/String")) (by decide)
  have f23 : Fld Z h13 a13 "com/example/quadrille/quadrille/rdf/BaseIri$Components" "query" "Ljava/lang/String;" .null := D13 (Or.inr (W159 hw)) (ty := (.object "java/lang/String")) (by decide)
  have f24 : Fld Z h13 a13 "com/example/quadrille/quadrille/rdf/BaseIri$Components" "fragment" "Ljava/lang/String;" .null := D13 (Or.inr (W161 hw)) (ty := (.object "java/lang/String")) (by decide)
  refine C15.special (y := ⟨"com/example/quadrille/quadrille/rdf/BaseIri$Components", "<init>", "(Ljava/lang/String;Ljava/lang/String;Ljava/lang/String;Ljava/lang/String;Ljava/lang/String;)V"⟩) (W := 1) rfl (wd hw 193 rfl) (W149 hw) (W150 hw) (W43 hw) (by decide) (rm_coInit l Z a0 EL G a13 (.ref s0_1) rfl u1_1 (OS.ref O1_1) (.ref s2_1) rfl u3_1 (OS.ref O3_1) .null rfl h13 C15.old E13 f20 f21 f22 f23 f24 zg13) (fun _ => rfl) rfl all0 (by decide) (by decide) (by decide) (by decide) (lenOf pd_38 rfl) rfl (nb rfl) rfl (Y56 64 rfl) (pc' := 166) rfl ?_
  intro vm25 T25 h25 v25 C25 A25 M25 q25
  obtain ⟨rfl, K25, E25, F25_0, F25_1, F25_2, F25_3, F25_4⟩ := q25
  have KK26 := (kT (kT (kR h []) K13 all0) K25 (allS (Or.inr ge13) all0))
  have f27 := (S2_1.keep KK26 nin0 nin0)
  have f28 := (S0_1.keep KK26 nin0 nin0)
  have f29 := (O1_1.keep (kT (kT (kR h []) K13 all0) K25 (allS (Or.inr ge13) all0)))
  have f30 := (O3_1.keep (kT (kT (kR h []) K13 all0) K25 (allS (Or.inr ge13) all0)))
  exact C25.retA (t := (.object "com/example/quadrille/quadrille/rdf/BaseIri$Components")) rfl rfl rfl rfl (Y56 65 rfl) (by decide) (by decide) ⟨a13, rfl, KK26, ge13, (.ref s0_1), u1_1, s2_1, t2_1, k2_1, u3_1, .null, E25, F25_0, F25_1, F25_2, F25_3, F25_4, (OS.mk f28), f29, f27, f30, OS.nil⟩
theorem rm_res0 (G : Glob Z a0 EL) (a b : Addr) (sc : List Int32) (au : Option (List Int32)) (pa : List Int32) (qu fr : Option (List Int32)) (g t : Addr) (kb : ClassId) (h : Heap) (O : Ext Z.heap h) (E0 : Exa Z h a "com/example/quadrille/quadrille/rdf/BaseIri") (F0 : Fld Z h a "com/example/quadrille/quadrille/rdf/BaseIri" "base" "Lcom/example/quadrille/quadrille/rdf/BaseIri$Components;" (.ref b)) (M : Cmp Z h b (some sc) au pa qu fr) (S : Str Z h g t kb []) (hlen : (own_txt sc au pa qu none).length < 16) (hns : au = none → own_sw [47, 47] (pa.drop 0) = 0) :
    Met l Z EL false ⟨"com/example/quadrille/quadrille/rdf/BaseIri", "resolve", "(Ljava/lang/String;)Ljava/lang/String;"⟩ prog_3_method_3_code 5 (some (.object "java/lang/String")) [] ⟨7, 12, 86, 104⟩ #[(.ref a), (.ref g)] h [] (fun r h' => ∃ (z t : Addr) (k : ClassId), r = some (.ref z) ∧ Keep h h' [] ∧ h.size ≤ z ∧ Str Z h' z t k (own_txt sc au pa qu none)) := by
  have hw := G.hw
  obtain ⟨vo, So, hvo⟩ := G.fo
  refine Met.of (plainFor_of_name pn_617365497269_0) G.ew O ?_
  intro p e s m below meth c T0 C0 S0
  refine Endw.eq (g' := mkF m 0 #[.val (.ref a), .val (.ref g), .unset, .unset, .unset] []) rfl ?_
  refine C0.aL (Y57 0 rfl) rfl rfl ?_
  refine C0.static (W := 0) (wd hw 41 rfl) (wd hw 42 rfl) (wd hw 44 rfl) (W43 hw) (by decide) (rm_cofR0 l Z a0 EL G g t kb h C0.old S) (fun z => nomatch z) rfl all0 (by decide) (by decide) (by decide) (by decide) (lenOf pd_28 rfl) rfl (nb rfl) rfl (Y57 1 rfl) (pc' := 4) rfl ?_
  intro vm1 T1 h1 v1 C1 A1 M1 q1
  obtain ⟨x1, rfl, K1, ge1, zg1, M1_⟩ := q1
  obtain ⟨u0_2, u1_2, s2_2, t2_2, k2_2, u3_2, u4_2, E_2, F0_2, F1_2, F2_2, F3_2, F4_2, O0_2, O1_2, S2_2, O3_2, O4_2⟩ := id M1_
  obtain rfl : u0_2 = .null := OS.isNone O0_2
  obtain rfl : u1_2 = .null := OS.isNone O1_2
  obtain rfl : u3_2 = .null := OS.isNone O3_2
  obtain rfl : u4_2 = .null := OS.isNone O4_2
  refine C1.aS (Y57 2 rfl) rfl (l' := #[.val (.ref a), .val (.ref g), .val (.ref x1), .unset, .unset]) rfl (C1.aL (Y57 3 rfl) rfl rfl ?_)
  refine C1.getFR (W162 hw) F0_2 (Y57 4 rfl) (pc' := 9) rfl ?_
  refine Endw.st (T' := T1) (g' := (mkF m 17 #[.val (.ref a), .val (.ref g), .val (.ref x1), .unset, .unset] [])) (fun _ k_ => XS.ifnullYes C1.here C1.hx rfl (pc0 := 9) rfl (C1.dec (Y57 5 rfl)) rfl (by decide) rfl k_) ?_
  refine C1.aL (Y57 6 rfl) rfl rfl (C1.aL (Y57 7 rfl) rfl rfl ?_)
  have f4 := (M.keep (kT (kR h []) K1 all0))
  have f5 := (E0.keep K1)
  have f6 := (F0.keep K1 nin0)
  refine C1.priv (W := 0) (wd hw 179 rfl) (wd hw 180 rfl) (own_plain (y := ⟨"com/example/quadrille/quadrille/rdf/BaseIri", "resolve", "(Ljava/lang/String;)Ljava/lang/String;"⟩) (W177 hw) (W176 hw)) (wd hw 181 rfl) (wd hw 182 rfl) (W39 hw) (by decide) (rm_tgt0 l Z a0 EL G a b sc au pa qu fr x1 h1 C1.old f5 f6 f4 M1_) (fun _ => rfl) rfl f5 all0 (by decide) (by decide) (by decide) (by decide) (lenOf pd_23 rfl) rfl (nb rfl) rfl (Y57 8 rfl) (pc' := 22) rfl ?_
  intro vm7 T7 h7 v7 C7 A7 M7 q7
  obtain ⟨z7, rfl, K7, ge7, M7_⟩ := q7
  obtain ⟨u0_8, u1_8, s2_8, t2_8, k2_8, u3_8, u4_8, E_8, F0_8, F1_8, F2_8, F3_8, F4_8, O0_8, O1_8, S2_8, O3_8, O4_8⟩ := id M7_
  rcases OS.cases O1_8 with ⟨ea7, rfl⟩ | ⟨sa7, ta7, ka7, ca7, ea7, rfl, Sa7⟩
  · refine C7.aSk (Y57 9 rfl) rfl (l' := #[.val (.ref a), .val (.ref g), .val (.ref x1), .unset, .val (.ref z7)]) rfl (C7.aLk (Y57 10 rfl) rfl rfl ?_)
    refine C7.getFR (W183 hw) F1_8 (Y57 11 rfl) (pc' := 29) rfl ?_
    refine Endw.st (T' := T7) (g' := (mkF m 32 #[.val (.ref a), .val (.ref g), .val (.ref x1), .unset, .val (.ref z7)] [])) (fun _ k_ => XS.ifnonnullNo C7.here C7.hx rfl (C7.dec (Y57 12 rfl)) rfl k_) ?_
    refine C7.aLk (Y57 13 rfl) rfl rfl ?_
    refine C7.getFR (W184 hw) F2_8 (Y57 14 rfl) (pc' := 37) rfl ?_
    refine C7.ldcC (N := 8) (vs := (bys [(47 : Int32), (47 : Int32)])) (z := (2 : Int32)) (W194 hw) G.wS (by rw [G.el]; decide) ⟨by decide, by decide⟩ (by decide) (by decide) (by decide) (by decide) (by decide) (by decide) (Y57 15 rfl) (pc' := 39) rfl rfl ?_
    intro vm11 T11 h11 a11 b11 kA11 C11 K11 A11 E11 F11 f11 V11 r11
    have Z11 : Str Z h11 a11 b11 kA11 [(47 : Int32), (47 : Int32)] := ⟨E11, F11, f11, V11, (own_cS ⟨by decide, by decide⟩ (own_cS ⟨by decide, by decide⟩ own_c0)), by decide⟩
    have f12 := (S2_8.keep K11 nin0 nin0)
    have f14 := (S2_8.1.keep K11)
    refine C11.virtual (W := 0) (wd hw 195 rfl) (wd hw 196 rfl) (fun _ q => notFace_of_selects (args := #[]) (mvT q (W198 hw))) (W198 hw) (wd hw 197 rfl) (wd hw 199 rfl) (W10 hw) (by decide) (rm_sw1 l Z a0 EL G s2_8 t2_8 k2_8 pa a11 b11 kA11 [(47 : Int32), (47 : Int32)]  h11 C11.old f12 Z11  (nb rfl)) (fun _ => rfl) rfl f14 all0 (by decide) (by decide) (by decide) (by decide) (lenOf pd_34 rfl) rfl (nb rfl) rfl (Y57 16 rfl) (pc' := 42) rfl ?_
    intro vm13 T13 h13 v13 C13 A13 M13 q13
    rw [show (own_sw [(47 : Int32), (47 : Int32)] (pa.drop 0)) = (0 : Int32) from hns ea7] at q13
    obtain ⟨rfl, rfl⟩ := q13
    refine C13.fY (pc' := 78) (Y57 17 rfl) (XT.i0_eq_t (by decide)) (by decide) rfl (C13.aLk (Y57 18 rfl) rfl rfl ?_)
    have f15 := (M7_.keep (kT (kR h7 []) K11 all0))
    have f17 := (E_8.keep K11)
    refine C13.virtual (W := 0) (W201 hw) (W202 hw) (fun _ q => notFace_of_selects (args := #[]) (mvT q (W204 hw))) (W204 hw) (W203 hw) (W205 hw) (W43 hw) (by decide) (rm_cts l Z a0 EL G z7 sc au pa qu h11 C13.old f15 hlen) (fun z => nomatch z) rfl f17 all0 (by decide) (by decide) (by decide) (by decide) (lenOf pd_3 rfl) rfl (nb rfl) rfl (Y57 19 rfl) (pc' := 83) rfl ?_
    intro vm16 T16 h16 v16 C16 A16 M16 q16
    obtain ⟨z16, t16, k16_, rfl, K16, ge16, Z16⟩ := q16
    refine C16.aS (Y57 20 rfl) rfl (l' := #[.val (.ref a), .val (.ref g), .val (.ref x1), .val (.ref z16), .val (.ref z7)]) rfl (C16.aL (Y57 21 rfl) rfl rfl ?_)
    have KK18 := (kT (kT (kT (kT (kR h []) K1 all0) K7 all0) K11 all0) K16 all0)
    exact C16.retA (t := (.object "java/lang/String")) rfl rfl rfl rfl (Y57 22 rfl) (by decide) (by decide) ⟨z16, t16, k16_, rfl, KK18, (lT (lT K1.1 (lT K7.1 K11.1)) ge16), Z16⟩
  · refine C7.aSk (Y57 9 rfl) rfl (l' := #[.val (.ref a), .val (.ref g), .val (.ref x1), .unset, .val (.ref z7)]) rfl (C7.aLk (Y57 10 rfl) rfl rfl ?_)
    refine C7.getFR (W183 hw) F1_8 (Y57 11 rfl) (pc' := 29) rfl ?_
    refine Endw.st (T' := T7) (g' := (mkF m 78 #[.val (.ref a), .val (.ref g), .val (.ref x1), .unset, .val (.ref z7)] [])) (fun _ k_ => XS.ifnonnullYes C7.here C7.hx rfl (pc0 := 29) rfl (C7.dec (Y57 12 rfl)) rfl (by decide) rfl k_) ?_
    refine C7.aLk (Y57 18 rfl) rfl rfl ?_
    refine C7.virtual (W := 0) (W201 hw) (W202 hw) (fun _ q => notFace_of_selects (args := #[]) (mvT q (W204 hw))) (W204 hw) (W203 hw) (W205 hw) (W43 hw) (by decide) (rm_cts l Z a0 EL G z7 sc au pa qu h7 C7.old M7_ hlen) (fun z => nomatch z) rfl E_8 all0 (by decide) (by decide) (by decide) (by decide) (lenOf pd_3 rfl) rfl (nb rfl) rfl (Y57 19 rfl) (pc' := 83) rfl ?_
    intro vm20 T20 h20 v20 C20 A20 M20 q20
    obtain ⟨z20, t20, k20_, rfl, K20, ge20, Z20⟩ := q20
    refine C20.aS (Y57 20 rfl) rfl (l' := #[.val (.ref a), .val (.ref g), .val (.ref x1), .val (.ref z20), .val (.ref z7)]) rfl (C20.aL (Y57 21 rfl) rfl rfl ?_)
    have KK21 := (kT (kT (kT (kR h []) K1 all0) K7 all0) K20 all0)
    exact C20.retA (t := (.object "java/lang/String")) rfl rfl rfl rfl (Y57 22 rfl) (by decide) (by decide) ⟨z20, t20, k20_, rfl, KK21, (lT (lT K1.1 K7.1) ge20), Z20⟩
theorem rm_tgt1 (G : Glob Z a0 EL) (a b : Addr) (sc : List Int32) (au : Option (List Int32)) (pa : List Int32) (qu fr : Option (List Int32)) (x : Addr) (h : Heap) (O : Ext Z.heap h) (E0 : Exa Z h a "com/example/quadrille/quadrille/rdf/BaseIri") (F0 : Fld Z h a "com/example/quadrille/quadrille/rdf/BaseIri" "base" "Lcom/example/quadrille/quadrille/rdf/BaseIri$Components;" (.ref b)) (M : Cmp Z h b (some sc) au pa qu fr) (N : Cmp Z h x none none [] (some []) none) :
    Met l Z EL true ⟨"com/example/quadrille/quadrille/rdf/BaseIri", "target", "(Lcom/example/quadrille/quadrille/rdf/BaseIri$Components;)Lcom/example/quadrille/quadrille/rdf/BaseIri$Components;"⟩ prog_3_method_4_code 5 (some (.object "com/example/quadrille/quadrille/rdf/BaseIri$Components")) [] ⟨2, 1, 5, 30⟩ #[(.ref a), (.ref x)] h [] (fun r h' => ∃ z : Addr, r = some (.ref z) ∧ Keep h h' [] ∧ h.size ≤ z ∧ Cmp Z h' z (some sc) au pa (some []) none) := by
  have hw := G.hw
  obtain ⟨vo, So, hvo⟩ := G.fo
  refine Met.of (plainFor_of_name pn_617365497269_0) G.ew O ?_
  intro p e s m below meth c T0 C0 S0
  refine Endw.eq (g' := mkF m 0 #[.val (.ref a), .val (.ref x), .unset, .unset, .unset] []) rfl ?_
  obtain ⟨u0_1, u1_1, s2_1, t2_1, k2_1, u3_1, u4_1, E_1, F0_1, F1_1, F2_1, F3_1, F4_1, O0_1, O1_1, S2_1, O3_1, O4_1⟩ := id M
  obtain ⟨s0_1, t0_1, k0_1, rfl, S0_1⟩ := OS.isSome O0_1
  obtain ⟨u0_2, u1_2, s2_2, t2_2, k2_2, u3_2, u4_2, E_2, F0_2, F1_2, F2_2, F3_2, F4_2, O0_2, O1_2, S2_2, O3_2, O4_2⟩ := id N
  obtain rfl : u0_2 = .null := OS.isNone O0_2
  obtain rfl : u1_2 = .null := OS.isNone O1_2
  obtain ⟨s3_2, t3_2, k3_2, rfl, S3_2⟩ := OS.isSome O3_2
  obtain rfl : u4_2 = .null := OS.isNone O4_2
  refine C0.aL (Y56 0 rfl) rfl rfl ?_
  refine C0.getFR (W183 hw) F1_2 (Y56 1 rfl) (pc' := 4) rfl ?_
  refine Endw.st (T' := T0) (g' := (mkF m 29 #[.val (.ref a), .val (.ref x), .unset, .unset, .unset] [])) (fun _ k_ => XS.ifnullYes C0.here C0.hx rfl (pc0 := 4) rfl (C0.dec (Y56 2 rfl)) rfl (by decide) rfl k_) ?_
  refine C0.aL (Y56 14 rfl) rfl rfl ?_
  refine C0.getFR (W184 hw) F2_2 (Y56 15 rfl) (pc' := 33) rfl ?_
  refine C0.virtual (W := 0) (wd hw 185 rfl) (wd hw 186 rfl) (fun _ q => notFace_of_selects (args := #[]) (mvT q (wd hw 188 rfl))) (wd hw 188 rfl) (wd hw 187 rfl) (wd hw 189 rfl) (W10 hw) (by decide) (rm_isEmpty l Z a0 EL G s2_2 t2_2 k2_2 [] h C0.old S2_2) (fun _ => rfl) rfl S2_2.1 all0 (by decide) (by decide) (by decide) (by decide) (lenOf pd_28295a rfl) rfl (nb rfl) rfl (Y56 16 rfl) (pc' := 36) rfl ?_
  intro vm5 T5 h5 v5 C5 A5 M5 q5
  rw [show (if (Int32.ofNat [].length) = (0 : Int32) then (1 : Int32) else 0) = (1 : Int32) from rfl] at q5
  obtain ⟨rfl, rfl⟩ := q5
  refine C5.fN (Y56 17 rfl) (XT.i0_eq_f (by decide)) (C5.aL (Y56 18 rfl) rfl rfl ?_)
  refine C5.getF (W171 hw) F0 (Y56 19 rfl) (pc' := 43) rfl ?_
  intro T6 C6
  refine C6.getFR (W183 hw) F1_1 (Y56 20 rfl) (pc' := 46) rfl ?_
  refine Endw.st (T' := T6) (g' := (mkF m 47 #[.val (.ref a), .val (.ref x), .val u1_1, .unset, .unset] [])) (fun _ k_ => XT.astoreNS C6.here C6.hx rfl (C6.dec (Y56 21 rfl)) rfl (OS.ref O1_1) (XT.cat1 (OS.ref O1_1)) rfl (by first | exact Or.inl rfl | exact Or.inr ⟨_, rfl, rfl⟩) k_) ?_
  refine C6.aL (Y56 22 rfl) rfl rfl ?_
  refine C6.getF (W171 hw) F0 (Y56 23 rfl) (pc' := 51) rfl ?_
  intro T8 C8
  refine C8.getFR (W184 hw) F2_1 (Y56 24 rfl) (pc' := 54) rfl ?_
  refine C8.aS (Y56 25 rfl) rfl (l' := #[.val (.ref a), .val (.ref x), .val u1_1, .val (.ref s2_1), .unset]) rfl (C8.aL (Y56 26 rfl) rfl rfl ?_)
  refine C8.getFR (wd hw 190 rfl) F3_2 (Y56 27 rfl) (pc' := 59) rfl ?_
  refine Endw.st (T' := T8) (g' := (mkF m 62 #[.val (.ref a), .val (.ref x), .val u1_1, .val (.ref s2_1), .unset] [])) (fun _ k_ => XS.ifnullNo C8.here C8.hx rfl (C8.dec (Y56 28 rfl)) rfl k_) ?_
  refine C8.aL (Y56 29 rfl) rfl rfl ?_
  refine C8.getFR (wd hw 190 rfl) F3_2 (Y56 30 rfl) (pc' := 66) rfl ?_
  refine C8.go (pc' := 76) (Y56 31 rfl) (by decide) rfl (C8.aSk (Y56 35 rfl) rfl (l' := #[.val (.ref a), .val (.ref x), .val u1_1, .val (.ref s2_1), .val (.ref s3_2)]) rfl (C8.go (pc' := 144) (Y56 36 rfl) (by decide) rfl ?_))
  refine C8.new (wd hw 191 rfl) (W114 hw) (W43 hw) (Y56 54 rfl) (pc' := 147) rfl (by decide) (by decide) ?_
  intro T12 h12 a12 C12 K12 A12 ge12 zg12 E12 D12 S12
  refine C12.du (Y56 55 rfl) rfl (C12.aL (Y56 56 rfl) rfl rfl ?_)
  have f13 := (F0.keep K12 nin0)
  refine C12.getF (W171 hw) f13 (Y56 57 rfl) (pc' := 152) rfl ?_
  intro T14 C14
  have f15 := (F0_1.keep K12 nin0)
  refine C14.getFR (W162 hw) f15 (Y56 58 rfl) (pc' := 155) rfl ?_
  refine C14.aL (Y56 59 rfl) rfl (OS.ref O1_1) (C14.aL (Y56 60 rfl) rfl rfl (C14.aLk (Y56 61 rfl) rfl rfl (C14.aL (Y56 62 rfl) rfl rfl ?_)))
  have f17 := (F4_2.keep K12 nin0)
  refine C14.getFR (wd hw 192 rfl) f17 (Y56 63 rfl) (pc' := 163) rfl ?_
  have f19 : Fld Z h12 a12 "com/example/quadrille/quadrille/rdf/BaseIri$Components" "scheme" "Ljava/lang/String;" .null := D12 (Or.inr (W153 hw)) (ty := (.object "java/lang/String")) (by decide)
  have f20 : Fld Z h12 a12 "com/example/quadrille/quadrille/rdf/BaseIri$Components" "authority" "Ljava/lang/String;" .null := D12 (Or.inr (W155 hw)) (ty := (.object "java/lang/String")) (by decide)
  have f21 : Fld Z h12 a12 "com/example/quadrille/quadrille/rdf/BaseIri$Components" "path" "Ljava/lang/String;" .null := D12 (Or.inr (W157 hw)) (ty := (.object "java/lang/String")) (by decide)
  have f22 : Fld Z h12 a12 "com/example/quadrille/quadrille/rdf/BaseIri$Components" "query" "Ljava/lang/String;" .null := D12 (Or.inr (W159 hw)) (ty := (.object "java/lang/String")) (by decide)
  have f23 : Fld Z h12 a12 "com/example/quadrille/quadrille/rdf/BaseIri$Components" "fragment" "Ljava/lang/String;" .null := D12 (Or.inr (W161 hw)) (ty := (.object "java/lang/String")) (by decide)
  refine C14.special (y := ⟨"com/example/quadrille/quadrille/rdf/BaseIri$Components", "<init>", "(Ljava/lang/String;Ljava/lang/String;Ljava/lang/String;Ljava/lang/String;Ljava/lang/String;)V"⟩) (W := 1) rfl (wd hw 193 rfl) (W149 hw) (W150 hw) (W43 hw) (by decide) (rm_coInit l Z a0 EL G a12 (.ref s0_1) rfl u1_1 (OS.ref O1_1) (.ref s2_1) rfl (.ref s3_2) rfl .null rfl h12 C14.old E12 f19 f20 f21 f22 f23 zg12) (fun _ => rfl) rfl all0 (by decide) (by decide) (by decide) (by decide) (lenOf pd_38 rfl) rfl (nb rfl) rfl (Y56 64 rfl) (pc' := 166) rfl ?_
  intro vm24 T24 h24 v24 C24 A24 M24 q24
  obtain ⟨rfl, K24, E24, F24_0, F24_1, F24_2, F24_3, F24_4⟩ := q24
  have KK25 := (kT (kT (kR h []) K12 all0) K24 (allS (Or.inr ge12) all0))
  have f26 := (S2_1.keep KK25 nin0 nin0)
  have f27 := (S0_1.keep KK25 nin0 nin0)
  have f28 := (O1_1.keep (kT (kT (kR h []) K12 all0) K24 (allS (Or.inr ge12) all0)))
  have f29 := (S3_2.keep KK25 nin0 nin0)
  exact C24.retA (t := (.object "com/example/quadrille/quadrille/rdf/BaseIri$Components")) rfl rfl rfl rfl (Y56 65 rfl) (by decide) (by decide) ⟨a12, rfl, KK25, ge12, (.ref s0_1), u1_1, s2_1, t2_1, k2_1, (.ref s3_2), .null, E24, F24_0, F24_1, F24_2, F24_3, F24_4, (OS.mk f27), f28, f26, (OS.mk f29), OS.nil⟩
theorem rm_res1 (G : Glob Z a0 EL) (a b : Addr) (sc : List Int32) (au : Option (List Int32)) (pa : List Int32) (qu fr : Option (List Int32)) (g t : Addr) (kb : ClassId) (h : Heap) (O : Ext Z.heap h) (E0 : Exa Z h a "com/example/quadrille/quadrille/rdf/BaseIri") (F0 : Fld Z h a "com/example/quadrille/quadrille/rdf/BaseIri" "base" "Lcom/example/quadrille/quadrille/rdf/BaseIri$Components;" (.ref b)) (M : Cmp Z h b (some sc) au pa qu fr) (S : Str Z h g t kb [(63 : Int32)]) (hlen : (own_txt sc au pa (some []) none).length < 16) (hns : au = none → own_sw [47, 47] (pa.drop 0) = 0) :
    Met l Z EL false ⟨"com/example/quadrille/quadrille/rdf/BaseIri", "resolve", "(Ljava/lang/String;)Ljava/lang/String;"⟩ prog_3_method_3_code 5 (some (.object "java/lang/String")) [] ⟨7, 16, 94, 104⟩ #[(.ref a), (.ref g)] h [] (fun r h' => ∃ (z t : Addr) (k : ClassId), r = some (.ref z) ∧ Keep h h' [] ∧ h.size ≤ z ∧ Str Z h' z t k (own_txt sc au pa (some []) none)) := by
  have hw := G.hw
  obtain ⟨vo, So, hvo⟩ := G.fo
  refine Met.of (plainFor_of_name pn_617365497269_0) G.ew O ?_
  intro p e s m below meth c T0 C0 S0
  refine Endw.eq (g' := mkF m 0 #[.val (.ref a), .val (.ref g), .unset, .unset, .unset] []) rfl ?_
  refine C0.aL (Y57 0 rfl) rfl rfl ?_
  refine C0.static (W := 0) (wd hw 41 rfl) (wd hw 42 rfl) (wd hw 44 rfl) (W43 hw) (by decide) (rm_cofR1 l Z a0 EL G g t kb h C0.old S) (fun z => nomatch z) rfl all0 (by decide) (by decide) (by decide) (by decide) (lenOf pd_28 rfl) rfl (nb rfl) rfl (Y57 1 rfl) (pc' := 4) rfl ?_
  intro vm1 T1 h1 v1 C1 A1 M1 q1
  obtain ⟨x1, rfl, K1, ge1, zg1, M1_⟩ := q1
  obtain ⟨u0_2, u1_2, s2_2, t2_2, k2_2, u3_2, u4_2, E_2, F0_2, F1_2, F2_2, F3_2, F4_2, O0_2, O1_2, S2_2, O3_2, O4_2⟩ := id M1_
  obtain rfl : u0_2 = .null := OS.isNone O0_2
  obtain rfl : u1_2 = .null := OS.isNone O1_2
  obtain ⟨s3_2, t3_2, k3_2, rfl, S3_2⟩ := OS.isSome O3_2
  obtain rfl : u4_2 = .null := OS.isNone O4_2
  refine C1.aS (Y57 2 rfl) rfl (l' := #[.val (.ref a), .val (.ref g), .val (.ref x1), .unset, .unset]) rfl (C1.aL (Y57 3 rfl) rfl rfl ?_)
  refine C1.getFR (W162 hw) F0_2 (Y57 4 rfl) (pc' := 9) rfl ?_
  refine Endw.st (T' := T1) (g' := (mkF m 17 #[.val (.ref a), .val (.ref g), .val (.ref x1), .unset, .unset] [])) (fun _ k_ => XS.ifnullYes C1.here C1.hx rfl (pc0 := 9) rfl (C1.dec (Y57 5 rfl)) rfl (by decide) rfl k_) ?_
  refine C1.aL (Y57 6 rfl) rfl rfl (C1.aL (Y57 7 rfl) rfl rfl ?_)
  have f4 := (M.keep (kT (kR h []) K1 all0))
  have f5 := (E0.keep K1)
  have f6 := (F0.keep K1 nin0)
  refine C1.priv (W := 0) (wd hw 179 rfl) (wd hw 180 rfl) (own_plain (y := ⟨"com/example/quadrille/quadrille/rdf/BaseIri", "resolve", "(Ljava/lang/String;)Ljava/lang/String;"⟩) (W177 hw) (W176 hw)) (wd hw 181 rfl) (wd hw 182 rfl) (W39 hw) (by decide) (rm_tgt1 l Z a0 EL G a b sc au pa qu fr x1 h1 C1.old f5 f6 f4 M1_) (fun _ => rfl) rfl f5 all0 (by decide) (by decide) (by decide) (by decide) (lenOf pd_23 rfl) rfl (nb rfl) rfl (Y57 8 rfl) (pc' := 22) rfl ?_
  intro vm7 T7 h7 v7 C7 A7 M7 q7
  obtain ⟨z7, rfl, K7, ge7, M7_⟩ := q7
  obtain ⟨u0_8, u1_8, s2_8, t2_8, k2_8, u3_8, u4_8, E_8, F0_8, F1_8, F2_8, F3_8, F4_8, O0_8, O1_8, S2_8, O3_8, O4_8⟩ := id M7_
  rcases OS.cases O1_8 with ⟨ea7, rfl⟩ | ⟨sa7, ta7, ka7, ca7, ea7, rfl, Sa7⟩
  · refine C7.aSk (Y57 9 rfl) rfl (l' := #[.val (.ref a), .val (.ref g), .val (.ref x1), .unset, .val (.ref z7)]) rfl (C7.aLk (Y57 10 rfl) rfl rfl ?_)
    refine C7.getFR (W183 hw) F1_8 (Y57 11 rfl) (pc' := 29) rfl ?_
    refine Endw.st (T' := T7) (g' := (mkF m 32 #[.val (.ref a), .val (.ref g), .val (.ref x1), .unset, .val (.ref z7)] [])) (fun _ k_ => XS.ifnonnullNo C7.here C7.hx rfl (C7.dec (Y57 12 rfl)) rfl k_) ?_
    refine C7.aLk (Y57 13 rfl) rfl rfl ?_
    refine C7.getFR (W184 hw) F2_8 (Y57 14 rfl) (pc' := 37) rfl ?_
    refine C7.ldcC (N := 8) (vs := (bys [(47 : Int32), (47 : Int32)])) (z := (2 : Int32)) (W194 hw) G.wS (by rw [G.el]; decide) ⟨by decide, by decide⟩ (by decide) (by decide) (by decide) (by decide) (by decide) (by decide) (Y57 15 rfl) (pc' := 39) rfl rfl ?_
    intro vm11 T11 h11 a11 b11 kA11 C11 K11 A11 E11 F11 f11 V11 r11
    have Z11 : Str Z h11 a11 b11 kA11 [(47 : Int32), (47 : Int32)] := ⟨E11, F11, f11, V11, (own_cS ⟨by decide, by decide⟩ (own_cS ⟨by decide, by decide⟩ own_c0)), by decide⟩
    have f12 := (S2_8.keep K11 nin0 nin0)
    have f14 := (S2_8.1.keep K11)
    refine C11.virtual (W := 0) (wd hw 195 rfl) (wd hw 196 rfl) (fun _ q => notFace_of_selects (args := #[]) (mvT q (W198 hw))) (W198 hw) (wd hw 197 rfl) (wd hw 199 rfl) (W10 hw) (by decide) (rm_sw1 l Z a0 EL G s2_8 t2_8 k2_8 pa a11 b11 kA11 [(47 : Int32), (47 : Int32)]  h11 C11.old f12 Z11  (nb rfl)) (fun _ => rfl) rfl f14 all0 (by decide) (by decide) (by decide) (by decide) (lenOf pd_34 rfl) rfl (nb rfl) rfl (Y57 16 rfl) (pc' := 42) rfl ?_
    intro vm13 T13 h13 v13 C13 A13 M13 q13
    rw [show (own_sw [(47 : Int32), (47 : Int32)] (pa.drop 0)) = (0 : Int32) from hns ea7] at q13
    obtain ⟨rfl, rfl⟩ := q13
    refine C13.fY (pc' := 78) (Y57 17 rfl) (XT.i0_eq_t (by decide)) (by decide) rfl (C13.aLk (Y57 18 rfl) rfl rfl ?_)
    have f15 := (M7_.keep (kT (kR h7 []) K11 all0))
    have f17 := (E_8.keep K11)
    refine C13.virtual (W := 0) (W201 hw) (W202 hw) (fun _ q => notFace_of_selects (args := #[]) (mvT q (W204 hw))) (W204 hw) (W203 hw) (W205 hw) (W43 hw) (by decide) (rm_cts l Z a0 EL G z7 sc au pa (some []) h11 C13.old f15 hlen) (fun z => nomatch z) rfl f17 all0 (by decide) (by decide) (by decide) (by decide) (lenOf pd_3 rfl) rfl (nb rfl) rfl (Y57 19 rfl) (pc' := 83) rfl ?_
    intro vm16 T16 h16 v16 C16 A16 M16 q16
    obtain ⟨z16, t16, k16_, rfl, K16, ge16, Z16⟩ := q16
    refine C16.aS (Y57 20 rfl) rfl (l' := #[.val (.ref a), .val (.ref g), .val (.ref x1), .val (.ref z16), .val (.ref z7)]) rfl (C16.aL (Y57 21 rfl) rfl rfl ?_)
    have KK18 := (kT (kT (kT (kT (kR h []) K1 all0) K7 all0) K11 all0) K16 all0)
    exact C16.retA (t := (.object "java/lang/String")) rfl rfl rfl rfl (Y57 22 rfl) (by decide) (by decide) ⟨z16, t16, k16_, rfl, KK18, (lT (lT K1.1 (lT K7.1 K11.1)) ge16), Z16⟩
  · refine C7.aSk (Y57 9 rfl) rfl (l' := #[.val (.ref a), .val (.ref g), .val (.ref x1), .unset, .val (.ref z7)]) rfl (C7.aLk (Y57 10 rfl) rfl rfl ?_)
    refine C7.getFR (W183 hw) F1_8 (Y57 11 rfl) (pc' := 29) rfl ?_
    refine Endw.st (T' := T7) (g' := (mkF m 78 #[.val (.ref a), .val (.ref g), .val (.ref x1), .unset, .val (.ref z7)] [])) (fun _ k_ => XS.ifnonnullYes C7.here C7.hx rfl (pc0 := 29) rfl (C7.dec (Y57 12 rfl)) rfl (by decide) rfl k_) ?_
    refine C7.aLk (Y57 18 rfl) rfl rfl ?_
    refine C7.virtual (W := 0) (W201 hw) (W202 hw) (fun _ q => notFace_of_selects (args := #[]) (mvT q (W204 hw))) (W204 hw) (W203 hw) (W205 hw) (W43 hw) (by decide) (rm_cts l Z a0 EL G z7 sc au pa (some []) h7 C7.old M7_ hlen) (fun z => nomatch z) rfl E_8 all0 (by decide) (by decide) (by decide) (by decide) (lenOf pd_3 rfl) rfl (nb rfl) rfl (Y57 19 rfl) (pc' := 83) rfl ?_
    intro vm20 T20 h20 v20 C20 A20 M20 q20
    obtain ⟨z20, t20, k20_, rfl, K20, ge20, Z20⟩ := q20
    refine C20.aS (Y57 20 rfl) rfl (l' := #[.val (.ref a), .val (.ref g), .val (.ref x1), .val (.ref z20), .val (.ref z7)]) rfl (C20.aL (Y57 21 rfl) rfl rfl ?_)
    have KK21 := (kT (kT (kT (kR h []) K1 all0) K7 all0) K20 all0)
    exact C20.retA (t := (.object "java/lang/String")) rfl rfl rfl rfl (Y57 22 rfl) (by decide) (by decide) ⟨z20, t20, k20_, rfl, KK21, (lT (lT K1.1 K7.1) ge20), Z20⟩
theorem rm_tgt2 (G : Glob Z a0 EL) (a b : Addr) (sc : List Int32) (au : Option (List Int32)) (pa : List Int32) (qu fr : Option (List Int32)) (x : Addr) (h : Heap) (O : Ext Z.heap h) (E0 : Exa Z h a "com/example/quadrille/quadrille/rdf/BaseIri") (F0 : Fld Z h a "com/example/quadrille/quadrille/rdf/BaseIri" "base" "Lcom/example/quadrille/quadrille/rdf/BaseIri$Components;" (.ref b)) (M : Cmp Z h b (some sc) au pa qu fr) (N : Cmp Z h x none none [(47 : Int32), (121 : Int32)] none none) :
    Met l Z EL false ⟨"com/example/quadrille/quadrille/rdf/BaseIri", "target", "(Lcom/example/quadrille/quadrille/rdf/BaseIri$Components;)Lcom/example/quadrille/quadrille/rdf/BaseIri$Components;"⟩ prog_3_method_4_code 5 (some (.object "com/example/quadrille/quadrille/rdf/BaseIri$Components")) [] ⟨6, 23, 139, 88⟩ #[(.ref a), (.ref x)] h [] (fun r h' => ∃ z : Addr, r = some (.ref z) ∧ Keep h h' [] ∧ h.size ≤ z ∧ Cmp Z h' z (some sc) au [(47 : Int32), (121 : Int32)] none none) := by
  have hw := G.hw
  obtain ⟨vo, So, hvo⟩ := G.fo
  refine Met.of (plainFor_of_name pn_617365497269_0) G.ew O ?_
  intro p e s m below meth c T0 C0 S0
  refine Endw.eq (g' := mkF m 0 #[.val (.ref a), .val (.ref x), .unset, .unset, .unset] []) rfl ?_
  obtain ⟨u0_1, u1_1, s2_1, t2_1, k2_1, u3_1, u4_1, E_1, F0_1, F1_1, F2_1, F3_1, F4_1, O0_1, O1_1, S2_1, O3_1, O4_1⟩ := id M
  obtain ⟨s0_1, t0_1, k0_1, rfl, S0_1⟩ := OS.isSome O0_1
  obtain ⟨u0_2, u1_2, s2_2, t2_2, k2_2, u3_2, u4_2, E_2, F0_2, F1_2, F2_2, F3_2, F4_2, O0_2, O1_2, S2_2, O3_2, O4_2⟩ := id N
  obtain rfl : u0_2 = .null := OS.isNone O0_2
  obtain rfl : u1_2 = .null := OS.isNone O1_2
  obtain rfl : u3_2 = .null := OS.isNone O3_2
  obtain rfl : u4_2 = .null := OS.isNone O4_2
  refine C0.aL (Y56 0 rfl) rfl rfl ?_
  refine C0.getFR (W183 hw) F1_2 (Y56 1 rfl) (pc' := 4) rfl ?_
  refine Endw.st (T' := T0) (g' := (mkF m 29 #[.val (.ref a), .val (.ref x), .unset, .unset, .unset] [])) (fun _ k_ => XS.ifnullYes C0.here C0.hx rfl (pc0 := 4) rfl (C0.dec (Y56 2 rfl)) rfl (by decide) rfl k_) ?_
  refine C0.aL (Y56 14 rfl) rfl rfl ?_
  refine C0.getFR (W184 hw) F2_2 (Y56 15 rfl) (pc' := 33) rfl ?_
  refine C0.virtual (W := 0) (wd hw 185 rfl) (wd hw 186 rfl) (fun _ q => notFace_of_selects (args := #[]) (mvT q (wd hw 188 rfl))) (wd hw 188 rfl) (wd hw 187 rfl) (wd hw 189 rfl) (W10 hw) (by decide) (rm_isEmpty l Z a0 EL G s2_2 t2_2 k2_2 [(47 : Int32), (121 : Int32)] h C0.old S2_2) (fun _ => rfl) rfl S2_2.1 all0 (by decide) (by decide) (by decide) (by decide) (lenOf pd_28295a rfl) rfl (nb rfl) rfl (Y56 16 rfl) (pc' := 36) rfl ?_
  intro vm5 T5 h5 v5 C5 A5 M5 q5
  rw [show (if (Int32.ofNat [(47 : Int32), (121 : Int32)].length) = (0 : Int32) then (1 : Int32) else 0) = (0 : Int32) from by decide] at q5
  obtain ⟨rfl, rfl⟩ := q5
  refine C5.fY (pc' := 81) (Y56 17 rfl) (XT.i0_eq_t (by decide)) (by decide) rfl (C5.aL (Y56 37 rfl) rfl rfl ?_)
  refine C5.getFR (W184 hw) F2_2 (Y56 38 rfl) (pc' := 85) rfl ?_
  refine C5.ldcC (N := 4) (vs := (bys [(47 : Int32)])) (z := (1 : Int32)) (W310 hw) G.wS (by rw [G.el]; decide) ⟨by decide, by decide⟩ (by decide) (by decide) (by decide) (by decide) (by decide) (by decide) (Y56 39 rfl) (pc' := 87) rfl rfl ?_
  intro vm7 T7 h7 a7 b7 kA7 C7 K7 A7 E7 F7 f7 V7 r7
  have Z7 : Str Z h7 a7 b7 kA7 [(47 : Int32)] := ⟨E7, F7, f7, V7, (own_cS ⟨by decide, by decide⟩ own_c0), by decide⟩
  have f8 := (S2_2.keep K7 nin0 nin0)
  have f10 := (S2_2.1.keep K7)
  refine C7.virtual (W := 0) (wd hw 195 rfl) (wd hw 196 rfl) (fun _ q => notFace_of_selects (args := #[]) (mvT q (W198 hw))) (W198 hw) (wd hw 197 rfl) (wd hw 199 rfl) (W10 hw) (by decide) (rm_sw1 l Z a0 EL G s2_2 t2_2 k2_2 [(47 : Int32), (121 : Int32)] a7 b7 kA7 [(47 : Int32)]  h7 C7.old f8 Z7  (nb rfl)) (fun _ => rfl) rfl f10 all0 (by decide) (by decide) (by decide) (by decide) (lenOf pd_34 rfl) rfl (nb rfl) rfl (Y56 40 rfl) (pc' := 90) rfl ?_
  intro vm9 T9 h9 v9 C9 A9 M9 q9
  rw [show (own_sw [(47 : Int32)] ([(47 : Int32), (121 : Int32)].drop 0)) = (1 : Int32) from by decide] at q9
  obtain ⟨rfl, rfl⟩ := q9
  refine C9.fN (Y56 41 rfl) (XT.i0_eq_f (by decide)) (C9.aL (Y56 42 rfl) rfl rfl ?_)
  have f11 := (F0.keep K7 nin0)
  refine C9.getF (W171 hw) f11 (Y56 43 rfl) (pc' := 97) rfl ?_
  intro T12 C12
  have f13 := (F1_1.keep K7 nin0)
  refine C12.getFR (W183 hw) f13 (Y56 44 rfl) (pc' := 100) rfl ?_
  refine Endw.st (T' := T12) (g' := (mkF m 101 #[.val (.ref a), .val (.ref x), .val u1_1, .unset, .unset] [])) (fun _ k_ => XT.astoreNS C12.here C12.hx rfl (C12.dec (Y56 45 rfl)) rfl (OS.ref O1_1) (XT.cat1 (OS.ref O1_1)) rfl (by first | exact Or.inl rfl | exact Or.inr ⟨_, rfl, rfl⟩) k_) ?_
  refine C12.aL (Y56 46 rfl) rfl rfl ?_
  have f15 := (F2_2.keep K7 nin0)
  refine C12.getFR (W184 hw) f15 (Y56 47 rfl) (pc' := 105) rfl ?_
  refine C12.static (W := 0) (wd hw 311 rfl) (wd hw 312 rfl) (wd hw 313 rfl) (W39 hw) (by decide) (rm_rds2 l Z a0 EL G s2_2 t2_2 k2_2 h7 C12.old f8) (fun z => nomatch z) rfl all0 (by decide) (by decide) (by decide) (by decide) (lenOf pd_31 rfl) rfl (nb rfl) rfl (Y56 48 rfl) (pc' := 108) rfl ?_
  intro vm17 T17 h17 v17 C17 A17 M17 q17
  obtain ⟨z17, d17, kd17, rfl, K17, Z17⟩ := q17
  refine C17.aS (Y56 49 rfl) rfl (l' := #[.val (.ref a), .val (.ref x), .val u1_1, .val (.ref z17), .unset]) rfl (C17.aL (Y56 50 rfl) rfl rfl ?_)
  have KK18 := (kT (kT (kR h []) K7 all0) K17 all0)
  have f19 := (F3_2.keep KK18 nin0)
  refine C17.getFR (wd hw 190 rfl) f19 (Y56 51 rfl) (pc' := 113) rfl ?_
  refine C17.aSk (Y56 52 rfl) rfl (l' := #[.val (.ref a), .val (.ref x), .val u1_1, .val (.ref z17), .val .null]) rfl (C17.go (pc' := 144) (Y56 53 rfl) (by decide) rfl ?_)
  refine C17.new (wd hw 191 rfl) (W114 hw) (W43 hw) (Y56 54 rfl) (pc' := 147) rfl (by decide) (by decide) ?_
  intro T21 h21 a21 C21 K21 A21 ge21 zg21 E21 D21 S21
  refine C21.du (Y56 55 rfl) rfl (C21.aL (Y56 56 rfl) rfl rfl ?_)
  have KK22 := (kT (kT (kR h7 []) K17 all0) K21 all0)
  have f23 := (f11.keep KK22 nin0)
  refine C21.getF (W171 hw) f23 (Y56 57 rfl) (pc' := 152) rfl ?_
  intro T24 C24
  have KK25 := (kT KK18 K21 all0)
  have f26 := (F0_1.keep KK25 nin0)
  refine C24.getFR (W162 hw) f26 (Y56 58 rfl) (pc' := 155) rfl ?_
  refine C24.aL (Y56 59 rfl) rfl (OS.ref O1_1) (C24.aL (Y56 60 rfl) rfl rfl (C24.aLk (Y56 61 rfl) rfl rfl (C24.aL (Y56 62 rfl) rfl rfl ?_)))
  have f28 := (F4_2.keep KK25 nin0)
  refine C24.getFR (wd hw 192 rfl) f28 (Y56 63 rfl) (pc' := 163) rfl ?_
  have f30 : Fld Z h21 a21 "com/example/quadrille/quadrille/rdf/BaseIri$Components" "scheme" "Ljava/lang/String;" .null := D21 (Or.inr (W153 hw)) (ty := (.object "java/lang/String")) (by decide)
  have f31 : Fld Z h21 a21 "com/example/quadrille/quadrille/rdf/BaseIri$Components" "authority" "Ljava/lang/String;" .null := D21 (Or.inr (W155 hw)) (ty := (.object "java/lang/String")) (by decide)
  have f32 : Fld Z h21 a21 "com/example/quadrille/quadrille/rdf/BaseIri$Components" "path" "Ljava/lang/String;" .null := D21 (Or.inr (W157 hw)) (ty := (.object "java/lang/String")) (by decide)
  have f33 : Fld Z h21 a21 "com/example/quadrille/quadrille/rdf/BaseIri$Components" "query" "Ljava/lang/String;" .null := D21 (Or.inr (W159 hw)) (ty := (.object "java/lang/String")) (by decide)
  have f34 : Fld Z h21 a21 "com/example/quadrille/quadrille/rdf/BaseIri$Components" "fragment" "Ljava/lang/String;" .null := D21 (Or.inr (W161 hw)) (ty := (.object "java/lang/String")) (by decide)
  refine C24.special (y := ⟨"com/example/quadrille/quadrille/rdf/BaseIri$Components", "<init>", "(Ljava/lang/String;Ljava/lang/String;Ljava/lang/String;Ljava/lang/String;Ljava/lang/String;)V"⟩) (W := 1) rfl (wd hw 193 rfl) (W149 hw) (W150 hw) (W43 hw) (by decide) (rm_coInit l Z a0 EL G a21 (.ref s0_1) rfl u1_1 (OS.ref O1_1) (.ref z17) rfl .null rfl .null rfl h21 C24.old E21 f30 f31 f32 f33 f34 zg21) (fun _ => rfl) rfl all0 (by decide) (by decide) (by decide) (by decide) (lenOf pd_38 rfl) rfl (nb rfl) rfl (Y56 64 rfl) (pc' := 166) rfl ?_
  intro vm35 T35 h35 v35 C35 A35 M35 q35
  obtain ⟨rfl, K35, E35, F35_0, F35_1, F35_2, F35_3, F35_4⟩ := q35
  have KK36 := (kT (kT (kR h17 []) K21 all0) K35 (allS (Or.inr ge21) all0))
  have f37 := (Z17.keep KK36 nin0 nin0)
  have KK38 := (kT KK25 K35 (allS (Or.inr (lT KK18.1 ge21)) all0))
  have f39 := (S0_1.keep KK38 nin0 nin0)
  have f40 := (O1_1.keep (kT (kT (kT (kT (kR h []) K7 all0) K17 all0) K21 all0) K35 (allS (Or.inr (lT KK18.1 ge21)) all0)))
  exact C35.retA (t := (.object "com/example/quadrille/quadrille/rdf/BaseIri$Components")) rfl rfl rfl rfl (Y56 65 rfl) (by decide) (by decide) ⟨a21, rfl, KK38, (lT KK18.1 ge21), (.ref s0_1), u1_1, z17, d17, kd17, .null, .null, E35, F35_0, F35_1, F35_2, F35_3, F35_4, (OS.mk f39), f40, f37, OS.nil, OS.nil⟩
theorem rm_res2 (G : Glob Z a0 EL) (a b : Addr) (sc : List Int32) (au : Option (List Int32)) (pa : List Int32) (qu fr : Option (List Int32)) (g t : Addr) (kb : ClassId) (h : Heap) (O : Ext Z.heap h) (E0 : Exa Z h a "com/example/quadrille/quadrille/rdf/BaseIri") (F0 : Fld Z h a "com/example/quadrille/quadrille/rdf/BaseIri" "base" "Lcom/example/quadrille/quadrille/rdf/BaseIri$Components;" (.ref b)) (M : Cmp Z h b (some sc) au pa qu fr) (S : Str Z h g t kb [(47 : Int32), (121 : Int32)]) (hlen : (own_txt sc au [(47 : Int32), (121 : Int32)] none none).length < 16) :
    Met l Z EL false ⟨"com/example/quadrille/quadrille/rdf/BaseIri", "resolve", "(Ljava/lang/String;)Ljava/lang/String;"⟩ prog_3_method_3_code 5 (some (.object "java/lang/String")) [] ⟨7, 36, 232, 104⟩ #[(.ref a), (.ref g)] h [] (fun r h' => ∃ (z t : Addr) (k : ClassId), r = some (.ref z) ∧ Keep h h' [] ∧ h.size ≤ z ∧ Str Z h' z t k (own_txt sc au [(47 : Int32), (121 : Int32)] none none)) := by
  have hw := G.hw
  obtain ⟨vo, So, hvo⟩ := G.fo
  refine Met.of (plainFor_of_name pn_617365497269_0) G.ew O ?_
  intro p e s m below meth c T0 C0 S0
  refine Endw.eq (g' := mkF m 0 #[.val (.ref a), .val (.ref g), .unset, .unset, .unset] []) rfl ?_
  refine C0.aL (Y57 0 rfl) rfl rfl ?_
  refine C0.static (W := 0) (wd hw 41 rfl) (wd hw 42 rfl) (wd hw 44 rfl) (W43 hw) (by decide) (rm_cofR2 l Z a0 EL G g t kb h C0.old S) (fun z => nomatch z) rfl all0 (by decide) (by decide) (by decide) (by decide) (lenOf pd_28 rfl) rfl (nb rfl) rfl (Y57 1 rfl) (pc' := 4) rfl ?_
  intro vm1 T1 h1 v1 C1 A1 M1 q1
  obtain ⟨x1, rfl, K1, ge1, zg1, M1_⟩ := q1
  obtain ⟨u0_2, u1_2, s2_2, t2_2, k2_2, u3_2, u4_2, E_2, F0_2, F1_2, F2_2, F3_2, F4_2, O0_2, O1_2, S2_2, O3_2, O4_2⟩ := id M1_
  obtain rfl : u0_2 = .null := OS.isNone O0_2
  obtain rfl : u1_2 = .null := OS.isNone O1_2
  obtain rfl : u3_2 = .null := OS.isNone O3_2
  obtain rfl : u4_2 = .null := OS.isNone O4_2
  refine C1.aS (Y57 2 rfl) rfl (l' := #[.val (.ref a), .val (.ref g), .val (.ref x1), .unset, .unset]) rfl (C1.aL (Y57 3 rfl) rfl rfl ?_)
  refine C1.getFR (W162 hw) F0_2 (Y57 4 rfl) (pc' := 9) rfl ?_
  refine Endw.st (T' := T1) (g' := (mkF m 17 #[.val (.ref a), .val (.ref g), .val (.ref x1), .unset, .unset] [])) (fun _ k_ => XS.ifnullYes C1.here C1.hx rfl (pc0 := 9) rfl (C1.dec (Y57 5 rfl)) rfl (by decide) rfl k_) ?_
  refine C1.aL (Y57 6 rfl) rfl rfl (C1.aL (Y57 7 rfl) rfl rfl ?_)
  have f4 := (M.keep (kT (kR h []) K1 all0))
  have f5 := (E0.keep K1)
  have f6 := (F0.keep K1 nin0)
  refine C1.priv (W := 0) (wd hw 179 rfl) (wd hw 180 rfl) (own_plain (y := ⟨"com/example/quadrille/quadrille/rdf/BaseIri", "resolve", "(Ljava/lang/String;)Ljava/lang/String;"⟩) (W177 hw) (W176 hw)) (wd hw 181 rfl) (wd hw 182 rfl) (W39 hw) (by decide) (rm_tgt2 l Z a0 EL G a b sc au pa qu fr x1 h1 C1.old f5 f6 f4 M1_) (fun z => nomatch z) rfl f5 all0 (by decide) (by decide) (by decide) (by decide) (lenOf pd_23 rfl) rfl (nb rfl) rfl (Y57 8 rfl) (pc' := 22) rfl ?_
  intro vm7 T7 h7 v7 C7 A7 M7 q7
  obtain ⟨z7, rfl, K7, ge7, M7_⟩ := q7
  obtain ⟨u0_8, u1_8, s2_8, t2_8, k2_8, u3_8, u4_8, E_8, F0_8, F1_8, F2_8, F3_8, F4_8, O0_8, O1_8, S2_8, O3_8, O4_8⟩ := id M7_
  rcases OS.cases O1_8 with ⟨ea7, rfl⟩ | ⟨sa7, ta7, ka7, ca7, ea7, rfl, Sa7⟩
  · refine C7.aSk (Y57 9 rfl) rfl (l' := #[.val (.ref a), .val (.ref g), .val (.ref x1), .unset, .val (.ref z7)]) rfl (C7.aLk (Y57 10 rfl) rfl rfl ?_)
    refine C7.getFR (W183 hw) F1_8 (Y57 11 rfl) (pc' := 29) rfl ?_
    refine Endw.st (T' := T7) (g' := (mkF m 32 #[.val (.ref a), .val (.ref g), .val (.ref x1), .unset, .val (.ref z7)] [])) (fun _ k_ => XS.ifnonnullNo C7.here C7.hx rfl (C7.dec (Y57 12 rfl)) rfl k_) ?_
    refine C7.aLk (Y57 13 rfl) rfl rfl ?_
    refine C7.getFR (W184 hw) F2_8 (Y57 14 rfl) (pc' := 37) rfl ?_
    refine C7.ldcC (N := 8) (vs := (bys [(47 : Int32), (47 : Int32)])) (z := (2 : Int32)) (W194 hw) G.wS (by rw [G.el]; decide) ⟨by decide, by decide⟩ (by decide) (by decide) (by decide) (by decide) (by decide) (by decide) (Y57 15 rfl) (pc' := 39) rfl rfl ?_
    intro vm11 T11 h11 a11 b11 kA11 C11 K11 A11 E11 F11 f11 V11 r11
    have Z11 : Str Z h11 a11 b11 kA11 [(47 : Int32), (47 : Int32)] := ⟨E11, F11, f11, V11, (own_cS ⟨by decide, by decide⟩ (own_cS ⟨by decide, by decide⟩ own_c0)), by decide⟩
    have f12 := (S2_8.keep K11 nin0 nin0)
    have f14 := (S2_8.1.keep K11)
    refine C11.virtual (W := 0) (wd hw 195 rfl) (wd hw 196 rfl) (fun _ q => notFace_of_selects (args := #[]) (mvT q (W198 hw))) (W198 hw) (wd hw 197 rfl) (wd hw 199 rfl) (W10 hw) (by decide) (rm_sw1 l Z a0 EL G s2_8 t2_8 k2_8 [(47 : Int32), (121 : Int32)] a11 b11 kA11 [(47 : Int32), (47 : Int32)]  h11 C11.old f12 Z11  (nb rfl)) (fun _ => rfl) rfl f14 all0 (by decide) (by decide) (by decide) (by decide) (lenOf pd_34 rfl) rfl (nb rfl) rfl (Y57 16 rfl) (pc' := 42) rfl ?_
    intro vm13 T13 h13 v13 C13 A13 M13 q13
    rw [show (own_sw [(47 : Int32), (47 : Int32)] ([(47 : Int32), (121 : Int32)].drop 0)) = (0 : Int32) from by decide] at q13
    obtain ⟨rfl, rfl⟩ := q13
    refine C13.fY (pc' := 78) (Y57 17 rfl) (XT.i0_eq_t (by decide)) (by decide) rfl (C13.aLk (Y57 18 rfl) rfl rfl ?_)
    have f15 := (M7_.keep (kT (kR h7 []) K11 all0))
    have f17 := (E_8.keep K11)
    refine C13.virtual (W := 0) (W201 hw) (W202 hw) (fun _ q => notFace_of_selects (args := #[]) (mvT q (W204 hw))) (W204 hw) (W203 hw) (W205 hw) (W43 hw) (by decide) (rm_cts l Z a0 EL G z7 sc au [(47 : Int32), (121 : Int32)] none h11 C13.old f15 hlen) (fun z => nomatch z) rfl f17 all0 (by decide) (by decide) (by decide) (by decide) (lenOf pd_3 rfl) rfl (nb rfl) rfl (Y57 19 rfl) (pc' := 83) rfl ?_
    intro vm16 T16 h16 v16 C16 A16 M16 q16
    obtain ⟨z16, t16, k16_, rfl, K16, ge16, Z16⟩ := q16
    refine C16.aS (Y57 20 rfl) rfl (l' := #[.val (.ref a), .val (.ref g), .val (.ref x1), .val (.ref z16), .val (.ref z7)]) rfl (C16.aL (Y57 21 rfl) rfl rfl ?_)
    have KK18 := (kT (kT (kT (kT (kR h []) K1 all0) K7 all0) K11 all0) K16 all0)
    exact C16.retA (t := (.object "java/lang/String")) rfl rfl rfl rfl (Y57 22 rfl) (by decide) (by decide) ⟨z16, t16, k16_, rfl, KK18, (lT (lT K1.1 (lT K7.1 K11.1)) ge16), Z16⟩
  · refine C7.aSk (Y57 9 rfl) rfl (l' := #[.val (.ref a), .val (.ref g), .val (.ref x1), .unset, .val (.ref z7)]) rfl (C7.aLk (Y57 10 rfl) rfl rfl ?_)
    refine C7.getFR (W183 hw) F1_8 (Y57 11 rfl) (pc' := 29) rfl ?_
    refine Endw.st (T' := T7) (g' := (mkF m 78 #[.val (.ref a), .val (.ref g), .val (.ref x1), .unset, .val (.ref z7)] [])) (fun _ k_ => XS.ifnonnullYes C7.here C7.hx rfl (pc0 := 29) rfl (C7.dec (Y57 12 rfl)) rfl (by decide) rfl k_) ?_
    refine C7.aLk (Y57 18 rfl) rfl rfl ?_
    refine C7.virtual (W := 0) (W201 hw) (W202 hw) (fun _ q => notFace_of_selects (args := #[]) (mvT q (W204 hw))) (W204 hw) (W203 hw) (W205 hw) (W43 hw) (by decide) (rm_cts l Z a0 EL G z7 sc au [(47 : Int32), (121 : Int32)] none h7 C7.old M7_ hlen) (fun z => nomatch z) rfl E_8 all0 (by decide) (by decide) (by decide) (by decide) (lenOf pd_3 rfl) rfl (nb rfl) rfl (Y57 19 rfl) (pc' := 83) rfl ?_
    intro vm20 T20 h20 v20 C20 A20 M20 q20
    obtain ⟨z20, t20, k20_, rfl, K20, ge20, Z20⟩ := q20
    refine C20.aS (Y57 20 rfl) rfl (l' := #[.val (.ref a), .val (.ref g), .val (.ref x1), .val (.ref z20), .val (.ref z7)]) rfl (C20.aL (Y57 21 rfl) rfl rfl ?_)
    have KK21 := (kT (kT (kT (kR h []) K1 all0) K7 all0) K20 all0)
    exact C20.retA (t := (.object "java/lang/String")) rfl rfl rfl rfl (Y57 22 rfl) (by decide) (by decide) ⟨z20, t20, k20_, rfl, KK21, (lT (lT K1.1 K7.1) ge20), Z20⟩
theorem rm_tgt3 (G : Glob Z a0 EL) (a b : Addr) (sc : List Int32) (au : Option (List Int32)) (pa : List Int32) (qu fr : Option (List Int32)) (x : Addr) (h : Heap) (O : Ext Z.heap h) (E0 : Exa Z h a "com/example/quadrille/quadrille/rdf/BaseIri") (F0 : Fld Z h a "com/example/quadrille/quadrille/rdf/BaseIri" "base" "Lcom/example/quadrille/quadrille/rdf/BaseIri$Components;" (.ref b)) (M : Cmp Z h b (some sc) au pa qu fr) (N : Cmp Z h x none (some [(120 : Int32)]) [] none none) :
    Met l Z EL true ⟨"com/example/quadrille/quadrille/rdf/BaseIri", "target", "(Lcom/example/quadrille/quadrille/rdf/BaseIri$Components;)Lcom/example/quadrille/quadrille/rdf/BaseIri$Components;"⟩ prog_3_method_4_code 5 (some (.object "com/example/quadrille/quadrille/rdf/BaseIri$Components")) [] ⟨6, 5, 17, 88⟩ #[(.ref a), (.ref x)] h [] (fun r h' => ∃ z : Addr, r = some (.ref z) ∧ Keep h h' [] ∧ h.size ≤ z ∧ Cmp Z h' z (some sc) (some [(120 : Int32)]) [] none none) := by
  have hw := G.hw
  obtain ⟨vo, So, hvo⟩ := G.fo
  refine Met.of (plainFor_of_name pn_617365497269_0) G.ew O ?_
  intro p e s m below meth c T0 C0 S0
  refine Endw.eq (g' := mkF m 0 #[.val (.ref a), .val (.ref x), .unset, .unset, .unset] []) rfl ?_
  obtain ⟨u0_1, u1_1, s2_1, t2_1, k2_1, u3_1, u4_1, E_1, F0_1, F1_1, F2_1, F3_1, F4_1, O0_1, O1_1, S2_1, O3_1, O4_1⟩ := id M
  obtain ⟨s0_1, t0_1, k0_1, rfl, S0_1⟩ := OS.isSome O0_1
  obtain ⟨u0_2, u1_2, s2_2, t2_2, k2_2, u3_2, u4_2, E_2, F0_2, F1_2, F2_2, F3_2, F4_2, O0_2, O1_2, S2_2, O3_2, O4_2⟩ := id N
  obtain rfl : u0_2 = .null := OS.isNone O0_2
  obtain ⟨s1_2, t1_2, k1_2, rfl, S1_2⟩ := OS.isSome O1_2
  obtain rfl : u3_2 = .null := OS.isNone O3_2
  obtain rfl : u4_2 = .null := OS.isNone O4_2
  refine C0.aL (Y56 0 rfl) rfl rfl ?_
  refine C0.getFR (W183 hw) F1_2 (Y56 1 rfl) (pc' := 4) rfl ?_
  refine Endw.st (T' := T0) (g' := (mkF m 7 #[.val (.ref a), .val (.ref x), .unset, .unset, .unset] [])) (fun _ k_ => XS.ifnullNo C0.here C0.hx rfl (C0.dec (Y56 2 rfl)) rfl k_) ?_
  refine C0.aL (Y56 3 rfl) rfl rfl ?_
  refine C0.getFR (W183 hw) F1_2 (Y56 4 rfl) (pc' := 11) rfl ?_
  refine C0.aS (Y56 5 rfl) rfl (l' := #[.val (.ref a), .val (.ref x), .val (.ref s1_2), .unset, .unset]) rfl (C0.aL (Y56 6 rfl) rfl rfl ?_)
  refine C0.getFR (W184 hw) F2_2 (Y56 7 rfl) (pc' := 16) rfl ?_
  refine C0.static (W := 0) (wd hw 311 rfl) (wd hw 312 rfl) (wd hw 313 rfl) (W39 hw) (by decide) (rm_rds0 l Z a0 EL G s2_2 t2_2 k2_2 h C0.old S2_2) (fun _ => rfl) rfl all0 (by decide) (by decide) (by decide) (by decide) (lenOf pd_31 rfl) rfl (nb rfl) rfl (Y56 8 rfl) (pc' := 19) rfl ?_
  intro vm6 T6 h6 v6 C6 A6 M6 q6
  obtain ⟨z6, d6, kd6, rfl, K6, Z6⟩ := q6
  refine C6.aS (Y56 9 rfl) rfl (l' := #[.val (.ref a), .val (.ref x), .val (.ref s1_2), .val (.ref z6), .unset]) rfl (C6.aL (Y56 10 rfl) rfl rfl ?_)
  have f7 := (F3_2.keep K6 nin0)
  refine C6.getFR (wd hw 190 rfl) f7 (Y56 11 rfl) (pc' := 24) rfl ?_
  refine C6.aSk (Y56 12 rfl) rfl (l' := #[.val (.ref a), .val (.ref x), .val (.ref s1_2), .val (.ref z6), .val .null]) rfl (C6.go (pc' := 144) (Y56 13 rfl) (by decide) rfl ?_)
  refine C6.new (wd hw 191 rfl) (W114 hw) (W43 hw) (Y56 54 rfl) (pc' := 147) rfl (by decide) (by decide) ?_
  intro T9 h9 a9 C9 K9 A9 ge9 zg9 E9 D9 S9
  refine C9.du (Y56 55 rfl) rfl (C9.aL (Y56 56 rfl) rfl rfl ?_)
  have KK10 := (kT (kT (kR h []) K6 all0) K9 all0)
  have f11 := (F0.keep KK10 nin0)
  refine C9.getF (W171 hw) f11 (Y56 57 rfl) (pc' := 152) rfl ?_
  intro T12 C12
  have f13 := (F0_1.keep KK10 nin0)
  refine C12.getFR (W162 hw) f13 (Y56 58 rfl) (pc' := 155) rfl ?_
  refine C12.aL (Y56 59 rfl) rfl rfl (C12.aL (Y56 60 rfl) rfl rfl (C12.aLk (Y56 61 rfl) rfl rfl (C12.aL (Y56 62 rfl) rfl rfl ?_)))
  have f15 := (F4_2.keep KK10 nin0)
  refine C12.getFR (wd hw 192 rfl) f15 (Y56 63 rfl) (pc' := 163) rfl ?_
  have f17 : Fld Z h9 a9 "com/example/quadrille/quadrille/rdf/BaseIri$Components" "scheme" "Ljava/lang/String;" .null := D9 (Or.inr (W153 hw)) (ty := (.object "java/lang/String")) (by decide)
  have f18 : Fld Z h9 a9 "com/example/quadrille/quadrille/rdf/BaseIri$Components" "authority" "Ljava/lang/String;" .null := D9 (Or.inr (W155 hw)) (ty := (.object "java/lang/String")) (by decide)
  have f19 : Fld Z h9 a9 "com/example/quadrille/quadrille/rdf/BaseIri$Components" "path" "Ljava/lang/String;" .null := D9 (Or.inr (W157 hw)) (ty := (.object "java/lang/String")) (by decide)
  have f20 : Fld Z h9 a9 "com/example/quadrille/quadrille/rdf/BaseIri$Components" "query" "Ljava/lang/String;" .null := D9 (Or.inr (W159 hw)) (ty := (.object "java/lang/String")) (by decide)
  have f21 : Fld Z h9 a9 "com/example/quadrille/quadrille/rdf/BaseIri$Components" "fragment" "Ljava/lang/String;" .null := D9 (Or.inr (W161 hw)) (ty := (.object "java/lang/String")) (by decide)
  refine C12.special (y := ⟨"com/example/quadrille/quadrille/rdf/BaseIri$Components", "<init>", "(Ljava/lang/String;Ljava/lang/String;Ljava/lang/String;Ljava/lang/String;Ljava/lang/String;)V"⟩) (W := 1) rfl (wd hw 193 rfl) (W149 hw) (W150 hw) (W43 hw) (by decide) (rm_coInit l Z a0 EL G a9 (.ref s0_1) rfl (.ref s1_2) rfl (.ref z6) rfl .null rfl .null rfl h9 C12.old E9 f17 f18 f19 f20 f21 zg9) (fun _ => rfl) rfl all0 (by decide) (by decide) (by decide) (by decide) (lenOf pd_38 rfl) rfl (nb rfl) rfl (Y56 64 rfl) (pc' := 166) rfl ?_
  intro vm22 T22 h22 v22 C22 A22 M22 q22
  obtain ⟨rfl, K22, E22, F22_0, F22_1, F22_2, F22_3, F22_4⟩ := q22
  have KK23 := (kT (kT (kR h6 []) K9 all0) K22 (allS (Or.inr ge9) all0))
  have f24 := (Z6.keep KK23 nin0 nin0)
  have KK25 := (kT KK10 K22 (allS (Or.inr (lT K6.1 ge9)) all0))
  have f26 := (S0_1.keep KK25 nin0 nin0)
  have f27 := (S1_2.keep KK25 nin0 nin0)
  exact C22.retA (t := (.object "com/example/quadrille/quadrille/rdf/BaseIri$Components")) rfl rfl rfl rfl (Y56 65 rfl) (by decide) (by decide) ⟨a9, rfl, KK25, (lT K6.1 ge9), (.ref s0_1), (.ref s1_2), z6, d6, kd6, .null, .null, E22, F22_0, F22_1, F22_2, F22_3, F22_4, (OS.mk f26), (OS.mk f27), f24, OS.nil, OS.nil⟩
theorem rm_res3 (G : Glob Z a0 EL) (a b : Addr) (sc : List Int32) (au : Option (List Int32)) (pa : List Int32) (qu fr : Option (List Int32)) (g t : Addr) (kb : ClassId) (h : Heap) (O : Ext Z.heap h) (E0 : Exa Z h a "com/example/quadrille/quadrille/rdf/BaseIri") (F0 : Fld Z h a "com/example/quadrille/quadrille/rdf/BaseIri" "base" "Lcom/example/quadrille/quadrille/rdf/BaseIri$Components;" (.ref b)) (M : Cmp Z h b (some sc) au pa qu fr) (S : Str Z h g t kb [(47 : Int32), (47 : Int32), (120 : Int32)]) (hlen : (own_txt sc (some [(120 : Int32)]) [] none none).length < 16) :
    Met l Z EL false ⟨"com/example/quadrille/quadrille/rdf/BaseIri", "resolve", "(Ljava/lang/String;)Ljava/lang/String;"⟩ prog_3_method_3_code 5 (some (.object "java/lang/String")) [] ⟨7, 20, 114, 104⟩ #[(.ref a), (.ref g)] h [] (fun r h' => ∃ (z t : Addr) (k : ClassId), r = some (.ref z) ∧ Keep h h' [] ∧ h.size ≤ z ∧ Str Z h' z t k (own_txt sc (some [(120 : Int32)]) [] none none)) := by
  have hw := G.hw
  obtain ⟨vo, So, hvo⟩ := G.fo
  refine Met.of (plainFor_of_name pn_617365497269_0) G.ew O ?_
  intro p e s m below meth c T0 C0 S0
  refine Endw.eq (g' := mkF m 0 #[.val (.ref a), .val (.ref g), .unset, .unset, .unset] []) rfl ?_
  refine C0.aL (Y57 0 rfl) rfl rfl ?_
  refine C0.static (W := 0) (wd hw 41 rfl) (wd hw 42 rfl) (wd hw 44 rfl) (W43 hw) (by decide) (rm_cofR3 l Z a0 EL G g t kb h C0.old S) (fun z => nomatch z) rfl all0 (by decide) (by decide) (by decide) (by decide) (lenOf pd_28 rfl) rfl (nb rfl) rfl (Y57 1 rfl) (pc' := 4) rfl ?_
  intro vm1 T1 h1 v1 C1 A1 M1 q1
  obtain ⟨x1, rfl, K1, ge1, zg1, M1_⟩ := q1
  obtain ⟨u0_2, u1_2, s2_2, t2_2, k2_2, u3_2, u4_2, E_2, F0_2, F1_2, F2_2, F3_2, F4_2, O0_2, O1_2, S2_2, O3_2, O4_2⟩ := id M1_
  obtain rfl : u0_2 = .null := OS.isNone O0_2
  obtain ⟨s1_2, t1_2, k1_2, rfl, S1_2⟩ := OS.isSome O1_2
  obtain rfl : u3_2 = .null := OS.isNone O3_2
  obtain rfl : u4_2 = .null := OS.isNone O4_2
  refine C1.aS (Y57 2 rfl) rfl (l' := #[.val (.ref a), .val (.ref g), .val (.ref x1), .unset, .unset]) rfl (C1.aL (Y57 3 rfl) rfl rfl ?_)
  refine C1.getFR (W162 hw) F0_2 (Y57 4 rfl) (pc' := 9) rfl ?_
  refine Endw.st (T' := T1) (g' := (mkF m 17 #[.val (.ref a), .val (.ref g), .val (.ref x1), .unset, .unset] [])) (fun _ k_ => XS.ifnullYes C1.here C1.hx rfl (pc0 := 9) rfl (C1.dec (Y57 5 rfl)) rfl (by decide) rfl k_) ?_
  refine C1.aL (Y57 6 rfl) rfl rfl (C1.aL (Y57 7 rfl) rfl rfl ?_)
  have f4 := (M.keep (kT (kR h []) K1 all0))
  have f5 := (E0.keep K1)
  have f6 := (F0.keep K1 nin0)
  refine C1.priv (W := 0) (wd hw 179 rfl) (wd hw 180 rfl) (own_plain (y := ⟨"com/example/quadrille/quadrille/rdf/BaseIri", "resolve", "(Ljava/lang/String;)Ljava/lang/String;"⟩) (W177 hw) (W176 hw)) (wd hw 181 rfl) (wd hw 182 rfl) (W39 hw) (by decide) (rm_tgt3 l Z a0 EL G a b sc au pa qu fr x1 h1 C1.old f5 f6 f4 M1_) (fun _ => rfl) rfl f5 all0 (by decide) (by decide) (by decide) (by decide) (lenOf pd_23 rfl) rfl (nb rfl) rfl (Y57 8 rfl) (pc' := 22) rfl ?_
  intro vm7 T7 h7 v7 C7 A7 M7 q7
  obtain ⟨z7, rfl, K7, ge7, M7_⟩ := q7
  obtain ⟨u0_8, u1_8, s2_8, t2_8, k2_8, u3_8, u4_8, E_8, F0_8, F1_8, F2_8, F3_8, F4_8, O0_8, O1_8, S2_8, O3_8, O4_8⟩ := id M7_
  obtain ⟨s1_8, t1_8, k1_8, rfl, S1_8⟩ := OS.isSome O1_8
  refine C7.aSk (Y57 9 rfl) rfl (l' := #[.val (.ref a), .val (.ref g), .val (.ref x1), .unset, .val (.ref z7)]) rfl (C7.aLk (Y57 10 rfl) rfl rfl ?_)
  refine C7.getFR (W183 hw) F1_8 (Y57 11 rfl) (pc' := 29) rfl ?_
  refine Endw.st (T' := T7) (g' := (mkF m 78 #[.val (.ref a), .val (.ref g), .val (.ref x1), .unset, .val (.ref z7)] [])) (fun _ k_ => XS.ifnonnullYes C7.here C7.hx rfl (pc0 := 29) rfl (C7.dec (Y57 12 rfl)) rfl (by decide) rfl k_) ?_
  refine C7.aLk (Y57 18 rfl) rfl rfl ?_
  refine C7.virtual (W := 0) (W201 hw) (W202 hw) (fun _ q => notFace_of_selects (args := #[]) (mvT q (W204 hw))) (W204 hw) (W203 hw) (W205 hw) (W43 hw) (by decide) (rm_cts l Z a0 EL G z7 sc (some [(120 : Int32)]) [] none h7 C7.old M7_ hlen) (fun z => nomatch z) rfl E_8 all0 (by decide) (by decide) (by decide) (by decide) (lenOf pd_3 rfl) rfl (nb rfl) rfl (Y57 19 rfl) (pc' := 83) rfl ?_
  intro vm10 T10 h10 v10 C10 A10 M10 q10
  obtain ⟨z10, t10, k10_, rfl, K10, ge10, Z10⟩ := q10
  refine C10.aS (Y57 20 rfl) rfl (l' := #[.val (.ref a), .val (.ref g), .val (.ref x1), .val (.ref z10), .val (.ref z7)]) rfl (C10.aL (Y57 21 rfl) rfl rfl ?_)
  have KK11 := (kT (kT (kT (kR h []) K1 all0) K7 all0) K10 all0)
  exact C10.retA (t := (.object "java/lang/String")) rfl rfl rfl rfl (Y57 22 rfl) (by decide) (by decide) ⟨z10, t10, k10_, rfl, KK11, (lT (lT K1.1 K7.1) ge10), Z10⟩
theorem rm_pick (G : Glob Z a0 EL) (u : Int32) (h : Heap) (O : Ext Z.heap h)  :
    Met l Z EL true ⟨"com/example/quadrille/quadrille/rdf/BaseIriOfPinLaw", "pick", "(I)C"⟩ method_2_code 2 (some .char) [] ⟨0, 0, 0, 0⟩ #[(.int u)] h [] (fun r h' => ∃ x : Int32, r = some (.int x) ∧ B8 x ∧ h = h') := by
  obtain ⟨vo, So, hvo⟩ := G.fo
  refine Met.of (plainFor_of_name pn_50696e4c6177_2) G.ew O ?_
  intro p e s m below meth c T0 C0 S0
  refine Endw.eq (g' := mkF m 0 #[.val (.int u), .unset] []) rfl ?_
  refine C0.iL (Y58 0 rfl) rfl (C0.bi (z := 7) (Y58 1 rfl) rfl (C0.an (z := (u &&& (7 : Int32))) (Y58 2 rfl) rfl (C0.iS (Y58 3 rfl) (l' := #[.val (.int u), .val (.int (u &&& (7 : Int32)))]) rfl (C0.iL (Y58 4 rfl) rfl ?_))))
  by_cases c1 : (u &&& (7 : Int32)) = (0 : Int32)
  · refine C0.fN (Y58 5 rfl) (XT.i0_ne_f c1) (C0.bi (z := 97) (Y58 6 rfl) rfl ?_)
    exact C0.retI (t := .char) rfl (by simp) rfl (Y58 7 rfl) (by decide) (by decide) ⟨_, rfl, ⟨by decide, by decide⟩, rfl⟩
  · refine C0.fY (pc' := 12) (Y58 5 rfl) (XT.i0_ne_t c1) (by decide) rfl (C0.iL (Y58 8 rfl) rfl (C0.ic (z := 1) (Y58 9 rfl) rfl ?_))
    by_cases c2 : (u &&& (7 : Int32)) = (1 : Int32)
    · refine C0.cN (Y58 10 rfl) (XT.ii_ne_f c2) (C0.bi (z := 58) (Y58 11 rfl) rfl ?_)
      exact C0.retI (t := .char) rfl (by simp) rfl (Y58 12 rfl) (by decide) (by decide) ⟨_, rfl, ⟨by decide, by decide⟩, rfl⟩
    · refine C0.cY (pc' := 20) (Y58 10 rfl) (XT.ii_ne_t c2) (by decide) rfl (C0.iL (Y58 13 rfl) rfl (C0.ic (z := 2) (Y58 14 rfl) rfl ?_))
      by_cases c3 : (u &&& (7 : Int32)) = (2 : Int32)
      · refine C0.cN (Y58 15 rfl) (XT.ii_ne_f c3) (C0.bi (z := 47) (Y58 16 rfl) rfl ?_)
        exact C0.retI (t := .char) rfl (by simp) rfl (Y58 17 rfl) (by decide) (by decide) ⟨_, rfl, ⟨by decide, by decide⟩, rfl⟩
      · refine C0.cY (pc' := 28) (Y58 15 rfl) (XT.ii_ne_t c3) (by decide) rfl (C0.iL (Y58 18 rfl) rfl (C0.ic (z := 3) (Y58 19 rfl) rfl ?_))
        by_cases c4 : (u &&& (7 : Int32)) = (3 : Int32)
        · refine C0.cN (Y58 20 rfl) (XT.ii_ne_f c4) (C0.bi (z := 63) (Y58 21 rfl) rfl ?_)
          exact C0.retI (t := .char) rfl (by simp) rfl (Y58 22 rfl) (by decide) (by decide) ⟨_, rfl, ⟨by decide, by decide⟩, rfl⟩
        · refine C0.cY (pc' := 36) (Y58 20 rfl) (XT.ii_ne_t c4) (by decide) rfl (C0.iL (Y58 23 rfl) rfl (C0.ic (z := 4) (Y58 24 rfl) rfl ?_))
          by_cases c5 : (u &&& (7 : Int32)) = (4 : Int32)
          · refine C0.cN (Y58 25 rfl) (XT.ii_ne_f c5) (C0.bi (z := 35) (Y58 26 rfl) rfl ?_)
            exact C0.retI (t := .char) rfl (by simp) rfl (Y58 27 rfl) (by decide) (by decide) ⟨_, rfl, ⟨by decide, by decide⟩, rfl⟩
          · refine C0.cY (pc' := 44) (Y58 25 rfl) (XT.ii_ne_t c5) (by decide) rfl (C0.iL (Y58 28 rfl) rfl (C0.ic (z := 5) (Y58 29 rfl) rfl ?_))
            by_cases c6 : (u &&& (7 : Int32)) = (5 : Int32)
            · refine C0.cN (Y58 30 rfl) (XT.ii_ne_f c6) (C0.bi (z := 46) (Y58 31 rfl) rfl ?_)
              exact C0.retI (t := .char) rfl (by simp) rfl (Y58 32 rfl) (by decide) (by decide) ⟨_, rfl, ⟨by decide, by decide⟩, rfl⟩
            · refine C0.cY (pc' := 52) (Y58 30 rfl) (XT.ii_ne_t c6) (by decide) rfl (C0.iL (Y58 33 rfl) rfl (C0.ic (z := 3) (Y58 34 rfl) rfl ?_))
              refine Endw.st (T' := T0) (g' := (mkF m 55 #[.val (.int u), .val (.int (u &&& (7 : Int32)))] [(.int ((u.toUInt32 >>> ((3 : Int32) &&& 31).toUInt32).toInt32))])) (fun _ k_ => XS.iushr C0.here C0.hx rfl (C0.dec (Y58 35 rfl)) rfl k_) ?_
              refine C0.si (z := 255) (Y58 36 rfl) rfl (C0.an (z := (((u.toUInt32 >>> ((3 : Int32) &&& 31).toUInt32).toInt32) &&& (255 : Int32))) (Y58 37 rfl) rfl ?_)
              refine Endw.st (T' := T0) (g' := (mkF m 60 #[.val (.int u), .val (.int (u &&& (7 : Int32)))] [(.int ((((u.toUInt32 >>> ((3 : Int32) &&& 31).toUInt32).toInt32) &&& (255 : Int32)).toUInt32.toUInt16.toUInt32.toInt32))])) (fun _ k_ => XS.i2c C0.here C0.hx rfl (C0.dec (Y58 38 rfl)) rfl k_) ?_
              rw [show (((u.toUInt32 >>> ((3 : Int32) &&& 31).toUInt32).toInt32) &&& (255 : Int32)).toUInt32.toUInt16.toUInt32.toInt32 = (((u.toUInt32 >>> ((3 : Int32) &&& 31).toUInt32).toInt32) &&& (255 : Int32)) from i2c_mask _]
              exact C0.retI (t := .char) rfl (by simp) (own_narC (own_b16 (own_mask255 _))) (Y58 39 rfl) (by decide) (by decide) ⟨_, rfl, own_mask255 _, rfl⟩
theorem rm_idx0 (G : Glob Z a0 EL) (b : Addr) (kb : ClassId) (z0 z1 z2 z3 z4 z5 : Int32) (ch : Int32) (h : Heap) (O : Ext Z.heap h) (V : Arv Z h b kb .char (6 : Int32) [(.int z0), (.int z1), (.int z2), (.int z3), (.int z4), (.int z5)] (.int 0)) :
    Met l Z EL true ⟨"com/example/quadrille/quadrille/rdf/BaseIriOfPinLaw", "idxFrom", "([CCI)I"⟩ method_3_code 3 (some .int) [] ⟨0, 0, 0, 0⟩ #[(.ref b), (.int ch), (.int 0)] h [] (fun r h' => r = some (.int (Int32.ofNat (own_ix ch [z0, z1, z2, z3, z4, z5]))) ∧ h = h') := by
  obtain ⟨vo, So, hvo⟩ := G.fo
  refine Met.of (plainFor_of_name pn_50696e4c6177_2) G.ew O ?_
  intro p e s m below meth c T0 C0 S0
  refine Endw.eq (g' := mkF m 0 #[.val (.ref b), .val (.int ch), .val (.int 0)] []) rfl ?_
  refine C0.iL (Y59 0 rfl) rfl (C0.fN (Y59 1 rfl) (XT.i0_gt_f (by decide)) (C0.aL (Y59 2 rfl) rfl rfl (C0.ic (z := 0) (Y59 3 rfl) rfl ?_)))
  refine C0.caload V ⟨by decide, by decide⟩ (v := (.int z0)) rfl (Y59 4 rfl) (pc' := 7) rfl ?_
  refine C0.iL (Y59 5 rfl) rfl ?_
  by_cases c1 : z0 = ch
  · refine C0.cN (Y59 6 rfl) (XT.ii_ne_f c1) (C0.ic (z := 0) (Y59 7 rfl) rfl ?_)
    exact C0.retI (t := .int) rfl (by simp) rfl (Y59 8 rfl) (by decide) (by decide) ⟨by rw [show own_ix ch [z0, z1, z2, z3, z4, z5] = 0 from by rw [own_ix, if_pos c1] <;> rfl] <;> rfl, rfl⟩
  · refine C0.cY (pc' := 13) (Y59 6 rfl) (XT.ii_ne_t c1) (by decide) rfl (C0.iL (Y59 9 rfl) rfl (C0.ic (z := 1) (Y59 10 rfl) rfl (C0.cN (Y59 11 rfl) (XT.ii_gt_f (by decide)) (C0.aL (Y59 12 rfl) rfl rfl (C0.ic (z := 1) (Y59 13 rfl) rfl ?_)))))
    refine C0.caload V ⟨by decide, by decide⟩ (v := (.int z1)) rfl (Y59 14 rfl) (pc' := 21) rfl ?_
    refine C0.iL (Y59 15 rfl) rfl ?_
    by_cases c2 : z1 = ch
    · refine C0.cN (Y59 16 rfl) (XT.ii_ne_f c2) (C0.ic (z := 1) (Y59 17 rfl) rfl ?_)
      exact C0.retI (t := .int) rfl (by simp) rfl (Y59 18 rfl) (by decide) (by decide) ⟨by rw [show own_ix ch [z0, z1, z2, z3, z4, z5] = 1 from by rw [own_ix, if_neg c1, own_ix, if_pos c2] <;> rfl] <;> rfl, rfl⟩
    · refine C0.cY (pc' := 27) (Y59 16 rfl) (XT.ii_ne_t c2) (by decide) rfl (C0.iL (Y59 19 rfl) rfl (C0.ic (z := 2) (Y59 20 rfl) rfl (C0.cN (Y59 21 rfl) (XT.ii_gt_f (by decide)) (C0.aL (Y59 22 rfl) rfl rfl (C0.ic (z := 2) (Y59 23 rfl) rfl ?_)))))
      refine C0.caload V ⟨by decide, by decide⟩ (v := (.int z2)) rfl (Y59 24 rfl) (pc' := 35) rfl ?_
      refine C0.iL (Y59 25 rfl) rfl ?_
      by_cases c3 : z2 = ch
      · refine C0.cN (Y59 26 rfl) (XT.ii_ne_f c3) (C0.ic (z := 2) (Y59 27 rfl) rfl ?_)
        exact C0.retI (t := .int) rfl (by simp) rfl (Y59 28 rfl) (by decide) (by decide) ⟨by rw [show own_ix ch [z0, z1, z2, z3, z4, z5] = 2 from by rw [own_ix, if_neg c1, own_ix, if_neg c2, own_ix, if_pos c3] <;> rfl] <;> rfl, rfl⟩
      · refine C0.cY (pc' := 41) (Y59 26 rfl) (XT.ii_ne_t c3) (by decide) rfl (C0.iL (Y59 29 rfl) rfl (C0.ic (z := 3) (Y59 30 rfl) rfl (C0.cN (Y59 31 rfl) (XT.ii_gt_f (by decide)) (C0.aL (Y59 32 rfl) rfl rfl (C0.ic (z := 3) (Y59 33 rfl) rfl ?_)))))
        refine C0.caload V ⟨by decide, by decide⟩ (v := (.int z3)) rfl (Y59 34 rfl) (pc' := 49) rfl ?_
        refine C0.iL (Y59 35 rfl) rfl ?_
        by_cases c4 : z3 = ch
        · refine C0.cN (Y59 36 rfl) (XT.ii_ne_f c4) (C0.ic (z := 3) (Y59 37 rfl) rfl ?_)
          exact C0.retI (t := .int) rfl (by simp) rfl (Y59 38 rfl) (by decide) (by decide) ⟨by rw [show own_ix ch [z0, z1, z2, z3, z4, z5] = 3 from by rw [own_ix, if_neg c1, own_ix, if_neg c2, own_ix, if_neg c3, own_ix, if_pos c4] <;> rfl] <;> rfl, rfl⟩
        · refine C0.cY (pc' := 55) (Y59 36 rfl) (XT.ii_ne_t c4) (by decide) rfl (C0.iL (Y59 39 rfl) rfl (C0.ic (z := 4) (Y59 40 rfl) rfl (C0.cN (Y59 41 rfl) (XT.ii_gt_f (by decide)) (C0.aL (Y59 42 rfl) rfl rfl (C0.ic (z := 4) (Y59 43 rfl) rfl ?_)))))
          refine C0.caload V ⟨by decide, by decide⟩ (v := (.int z4)) rfl (Y59 44 rfl) (pc' := 63) rfl ?_
          refine C0.iL (Y59 45 rfl) rfl ?_
          by_cases c5 : z4 = ch
          · refine C0.cN (Y59 46 rfl) (XT.ii_ne_f c5) (C0.ic (z := 4) (Y59 47 rfl) rfl ?_)
            exact C0.retI (t := .int) rfl (by simp) rfl (Y59 48 rfl) (by decide) (by decide) ⟨by rw [show own_ix ch [z0, z1, z2, z3, z4, z5] = 4 from by rw [own_ix, if_neg c1, own_ix, if_neg c2, own_ix, if_neg c3, own_ix, if_neg c4, own_ix, if_pos c5] <;> rfl] <;> rfl, rfl⟩
          · refine C0.cY (pc' := 69) (Y59 46 rfl) (XT.ii_ne_t c5) (by decide) rfl (C0.iL (Y59 49 rfl) rfl (C0.ic (z := 5) (Y59 50 rfl) rfl (C0.cN (Y59 51 rfl) (XT.ii_gt_f (by decide)) (C0.aL (Y59 52 rfl) rfl rfl (C0.ic (z := 5) (Y59 53 rfl) rfl ?_)))))
            refine C0.caload V ⟨by decide, by decide⟩ (v := (.int z5)) rfl (Y59 54 rfl) (pc' := 77) rfl ?_
            refine C0.iL (Y59 55 rfl) rfl ?_
            by_cases c6 : z5 = ch
            · refine C0.cN (Y59 56 rfl) (XT.ii_ne_f c6) (C0.ic (z := 5) (Y59 57 rfl) rfl ?_)
              exact C0.retI (t := .int) rfl (by simp) rfl (Y59 58 rfl) (by decide) (by decide) ⟨by rw [show own_ix ch [z0, z1, z2, z3, z4, z5] = 5 from by rw [own_ix, if_neg c1, own_ix, if_neg c2, own_ix, if_neg c3, own_ix, if_neg c4, own_ix, if_neg c5, own_ix, if_pos c6] <;> rfl] <;> rfl, rfl⟩
            · refine C0.cY (pc' := 83) (Y59 56 rfl) (XT.ii_ne_t c6) (by decide) rfl (C0.bi (z := 6) (Y59 59 rfl) rfl ?_)
              exact C0.retI (t := .int) rfl (by simp) rfl (Y59 60 rfl) (by decide) (by decide) ⟨by rw [show own_ix ch [z0, z1, z2, z3, z4, z5] = 6 from by rw [own_ix, if_neg c1, own_ix, if_neg c2, own_ix, if_neg c3, own_ix, if_neg c4, own_ix, if_neg c5, own_ix, if_neg c6] <;> rfl] <;> rfl, rfl⟩
theorem rm_idxF (G : Glob Z a0 EL) (b : Addr) (kb : ClassId) (z0 z1 z2 z3 z4 z5 : Int32) (ch : Int32) (f : Nat) (h : Heap) (O : Ext Z.heap h) (V : Arv Z h b kb .char (6 : Int32) [(.int z0), (.int z1), (.int z2), (.int z3), (.int z4), (.int z5)] (.int 0)) (hf : f = 4 ∨ f = 5 ∨ f = 6) :
    Met l Z EL true ⟨"com/example/quadrille/quadrille/rdf/BaseIriOfPinLaw", "idxFrom", "([CCI)I"⟩ method_3_code 3 (some .int) [] ⟨0, 0, 0, 0⟩ #[(.ref b), (.int ch), (.int (Int32.ofNat f))] h [] (fun r h' => r = some (.int (Int32.ofNat (f + own_ix ch (List.drop f [z0, z1, z2, z3, z4, z5])))) ∧ h = h') := by
  obtain ⟨vo, So, hvo⟩ := G.fo
  refine Met.of (plainFor_of_name pn_50696e4c6177_2) G.ew O ?_
  intro p e s m below meth c T0 C0 S0
  refine Endw.eq (g' := mkF m 0 #[.val (.ref b), .val (.int ch), .val (.int (Int32.ofNat f))] []) rfl ?_
  rcases hf with rfl | rfl | rfl
  · show Endw p e below T0 (mkF m 0 #[.val (.ref b), .val (.int ch), .val (.int 4)] []) _
    refine C0.iL (Y59 0 rfl) rfl (C0.fY (pc' := 13) (Y59 1 rfl) (XT.i0_gt_t (by decide)) (by decide) rfl (C0.iL (Y59 9 rfl) rfl (C0.ic (z := 1) (Y59 10 rfl) rfl (C0.cY (pc' := 27) (Y59 11 rfl) (XT.ii_gt_t (by decide)) (by decide) rfl (C0.iL (Y59 19 rfl) rfl (C0.ic (z := 2) (Y59 20 rfl) rfl (C0.cY (pc' := 41) (Y59 21 rfl) (XT.ii_gt_t (by decide)) (by decide) rfl (C0.iL (Y59 29 rfl) rfl (C0.ic (z := 3) (Y59 30 rfl) rfl ?_)))))))))
    refine C0.cY (pc' := 55) (Y59 31 rfl) (XT.ii_gt_t (by decide)) (by decide) rfl (C0.iL (Y59 39 rfl) rfl (C0.ic (z := 4) (Y59 40 rfl) rfl (C0.cN (Y59 41 rfl) (XT.ii_gt_f (by decide)) (C0.aL (Y59 42 rfl) rfl rfl (C0.ic (z := 4) (Y59 43 rfl) rfl ?_)))))
    refine C0.caload V ⟨by decide, by decide⟩ (v := (.int z4)) rfl (Y59 44 rfl) (pc' := 63) rfl ?_
    refine C0.iL (Y59 45 rfl) rfl ?_
    by_cases c1 : z4 = ch
    · refine C0.cN (Y59 46 rfl) (XT.ii_ne_f c1) (C0.ic (z := 4) (Y59 47 rfl) rfl ?_)
      exact C0.retI (t := .int) rfl (by simp) rfl (Y59 48 rfl) (by decide) (by decide) ⟨by show _ = some (Value.int (Int32.ofNat (4 + own_ix ch [z4, z5]))); rw [own_ix, if_pos c1]; rfl, rfl⟩
    · refine C0.cY (pc' := 69) (Y59 46 rfl) (XT.ii_ne_t c1) (by decide) rfl (C0.iL (Y59 49 rfl) rfl (C0.ic (z := 5) (Y59 50 rfl) rfl (C0.cN (Y59 51 rfl) (XT.ii_gt_f (by decide)) (C0.aL (Y59 52 rfl) rfl rfl (C0.ic (z := 5) (Y59 53 rfl) rfl ?_)))))
      refine C0.caload V ⟨by decide, by decide⟩ (v := (.int z5)) rfl (Y59 54 rfl) (pc' := 77) rfl ?_
      refine C0.iL (Y59 55 rfl) rfl ?_
      by_cases c2 : z5 = ch
      · refine C0.cN (Y59 56 rfl) (XT.ii_ne_f c2) (C0.ic (z := 5) (Y59 57 rfl) rfl ?_)
        exact C0.retI (t := .int) rfl (by simp) rfl (Y59 58 rfl) (by decide) (by decide) ⟨by show _ = some (Value.int (Int32.ofNat (4 + own_ix ch [z4, z5]))); rw [own_ix, if_neg c1, own_ix, if_pos c2]; rfl, rfl⟩
      · refine C0.cY (pc' := 83) (Y59 56 rfl) (XT.ii_ne_t c2) (by decide) rfl (C0.bi (z := 6) (Y59 59 rfl) rfl ?_)
        exact C0.retI (t := .int) rfl (by simp) rfl (Y59 60 rfl) (by decide) (by decide) ⟨by show _ = some (Value.int (Int32.ofNat (4 + own_ix ch [z4, z5]))); rw [own_ix, if_neg c1, own_ix, if_neg c2]; rfl, rfl⟩
  · show Endw p e below T0 (mkF m 0 #[.val (.ref b), .val (.int ch), .val (.int 5)] []) _
    refine C0.iL (Y59 0 rfl) rfl (C0.fY (pc' := 13) (Y59 1 rfl) (XT.i0_gt_t (by decide)) (by decide) rfl (C0.iL (Y59 9 rfl) rfl (C0.ic (z := 1) (Y59 10 rfl) rfl (C0.cY (pc' := 27) (Y59 11 rfl) (XT.ii_gt_t (by decide)) (by decide) rfl (C0.iL (Y59 19 rfl) rfl (C0.ic (z := 2) (Y59 20 rfl) rfl (C0.cY (pc' := 41) (Y59 21 rfl) (XT.ii_gt_t (by decide)) (by decide) rfl (C0.iL (Y59 29 rfl) rfl (C0.ic (z := 3) (Y59 30 rfl) rfl ?_)))))))))
    refine C0.cY (pc' := 55) (Y59 31 rfl) (XT.ii_gt_t (by decide)) (by decide) rfl (C0.iL (Y59 39 rfl) rfl (C0.ic (z := 4) (Y59 40 rfl) rfl (C0.cY (pc' := 69) (Y59 41 rfl) (XT.ii_gt_t (by decide)) (by decide) rfl (C0.iL (Y59 49 rfl) rfl (C0.ic (z := 5) (Y59 50 rfl) rfl (C0.cN (Y59 51 rfl) (XT.ii_gt_f (by decide)) (C0.aL (Y59 52 rfl) rfl rfl (C0.ic (z := 5) (Y59 53 rfl) rfl ?_))))))))
    refine C0.caload V ⟨by decide, by decide⟩ (v := (.int z5)) rfl (Y59 54 rfl) (pc' := 77) rfl ?_
    refine C0.iL (Y59 55 rfl) rfl ?_
    by_cases c3 : z5 = ch
    · refine C0.cN (Y59 56 rfl) (XT.ii_ne_f c3) (C0.ic (z := 5) (Y59 57 rfl) rfl ?_)
      exact C0.retI (t := .int) rfl (by simp) rfl (Y59 58 rfl) (by decide) (by decide) ⟨by show _ = some (Value.int (Int32.ofNat (5 + own_ix ch [z5]))); rw [own_ix, if_pos c3]; rfl, rfl⟩
    · refine C0.cY (pc' := 83) (Y59 56 rfl) (XT.ii_ne_t c3) (by decide) rfl (C0.bi (z := 6) (Y59 59 rfl) rfl ?_)
      exact C0.retI (t := .int) rfl (by simp) rfl (Y59 60 rfl) (by decide) (by decide) ⟨by show _ = some (Value.int (Int32.ofNat (5 + own_ix ch [z5]))); rw [own_ix, if_neg c3]; rfl, rfl⟩
  · show Endw p e below T0 (mkF m 0 #[.val (.ref b), .val (.int ch), .val (.int 6)] []) _
    refine C0.iL (Y59 0 rfl) rfl (C0.fY (pc' := 13) (Y59 1 rfl) (XT.i0_gt_t (by decide)) (by decide) rfl (C0.iL (Y59 9 rfl) rfl (C0.ic (z := 1) (Y59 10 rfl) rfl (C0.cY (pc' := 27) (Y59 11 rfl) (XT.ii_gt_t (by decide)) (by decide) rfl (C0.iL (Y59 19 rfl) rfl (C0.ic (z := 2) (Y59 20 rfl) rfl (C0.cY (pc' := 41) (Y59 21 rfl) (XT.ii_gt_t (by decide)) (by decide) rfl (C0.iL (Y59 29 rfl) rfl (C0.ic (z := 3) (Y59 30 rfl) rfl ?_)))))))))
    refine C0.cY (pc' := 55) (Y59 31 rfl) (XT.ii_gt_t (by decide)) (by decide) rfl (C0.iL (Y59 39 rfl) rfl (C0.ic (z := 4) (Y59 40 rfl) rfl (C0.cY (pc' := 69) (Y59 41 rfl) (XT.ii_gt_t (by decide)) (by decide) rfl (C0.iL (Y59 49 rfl) rfl (C0.ic (z := 5) (Y59 50 rfl) rfl (C0.cY (pc' := 83) (Y59 51 rfl) (XT.ii_gt_t (by decide)) (by decide) rfl (C0.bi (z := 6) (Y59 59 rfl) rfl ?_)))))))
    exact C0.retI (t := .int) rfl (by simp) rfl (Y59 60 rfl) (by decide) (by decide) ⟨by show _ = some (Value.int (Int32.ofNat (6 + own_ix ch []))); rfl, rfl⟩
theorem rm_same (G : Glob Z a0 EL) (a t : Addr) (ka : ClassId) (rs : List Int32) (b : Addr) (kb : ClassId) (z0 z1 z2 z3 z4 z5 : Int32) (k : Nat) (h : Heap) (O : Ext Z.heap h) (S : Str Z h a t ka rs) (V : Arv Z h b kb .char (6 : Int32) [(.int z0), (.int z1), (.int z2), (.int z3), (.int z4), (.int z5)] (.int 0)) (hk : k ≤ 6) (hr : k ≤ rs.length) (hs : ∀ i, i < k → rs.getD i 0 = List.getD [z0, z1, z2, z3, z4, z5] i 0) :
    Met l Z EL true ⟨"com/example/quadrille/quadrille/rdf/BaseIriOfPinLaw", "sameUpTo", "(Ljava/lang/String;[CI)Z"⟩ method_4_code 3 (some .boolean) [] ⟨4, 0, 0, 53⟩ #[(.ref a), (.ref b), (.int (Int32.ofNat k))] h [] (fun r h' => r = some (.int 1) ∧ h = h') := by
  have hw := G.hw
  obtain ⟨vo, So, hvo⟩ := G.fo
  refine Met.of (plainFor_of_name pn_50696e4c6177_2) G.ew O ?_
  intro p e s m below meth c T0 C0 S0
  refine Endw.eq (g' := mkF m 0 #[.val (.ref a), .val (.ref b), .val (.int (Int32.ofNat k))] []) rfl ?_
  rcases own_le6 hk with rfl | rfl | rfl | rfl | rfl | rfl | rfl
  · show Endw p e below T0 (mkF m 0 #[.val (.ref a), .val (.ref b), .val (.int 0)] []) _
    refine C0.iL (Y60 0 rfl) rfl (C0.fY (pc' := 15) (Y60 1 rfl) (XT.i0_le_t (by decide)) (by decide) rfl (C0.iL (Y60 9 rfl) rfl (C0.ic (z := 1) (Y60 10 rfl) rfl (C0.cY (pc' := 31) (Y60 11 rfl) (XT.ii_le_t (by decide)) (by decide) rfl (C0.iL (Y60 19 rfl) rfl (C0.ic (z := 2) (Y60 20 rfl) rfl (C0.cY (pc' := 47) (Y60 21 rfl) (XT.ii_le_t (by decide)) (by decide) rfl (C0.iL (Y60 29 rfl) rfl (C0.ic (z := 3) (Y60 30 rfl) rfl ?_)))))))))
    refine C0.cY (pc' := 63) (Y60 31 rfl) (XT.ii_le_t (by decide)) (by decide) rfl (C0.iL (Y60 39 rfl) rfl (C0.ic (z := 4) (Y60 40 rfl) rfl (C0.cY (pc' := 79) (Y60 41 rfl) (XT.ii_le_t (by decide)) (by decide) rfl (C0.iL (Y60 49 rfl) rfl (C0.ic (z := 5) (Y60 50 rfl) rfl (C0.cY (pc' := 95) (Y60 51 rfl) (XT.ii_le_t (by decide)) (by decide) rfl (C0.ic (z := 1) (Y60 59 rfl) rfl (C0.go (pc' := 100) (Y60 60 rfl) (by decide) rfl ?_))))))))
    exact C0.retI (t := .boolean) rfl (by simp) rfl (Y60 61 rfl) (by decide) (by decide) ⟨rfl, rfl⟩
  · show Endw p e below T0 (mkF m 0 #[.val (.ref a), .val (.ref b), .val (.int 1)] []) _
    refine C0.iL (Y60 0 rfl) rfl (C0.fN (Y60 1 rfl) (XT.i0_le_f (by decide)) (C0.aL (Y60 2 rfl) rfl rfl (C0.ic (z := 0) (Y60 3 rfl) rfl ?_)))
    refine C0.virtual (W := 0) (W377 hw) (W92 hw) (fun _ q => notFace_of_selects (args := #[]) (mvT q (W94 hw))) (W94 hw) (W93 hw) (W95 hw) (W10 hw) (by decide) (rm_chr l Z a0 EL G a t ka rs 0 z0 h C0.old S (by omega) (hs 0 (by omega))) (fun _ => rfl) rfl S.1 all0 (by decide) (by decide) (by decide) (by decide) (lenOf pd_28492943 rfl) rfl (nb rfl) rfl (Y60 4 rfl) (pc' := 9) rfl ?_
    intro vm1 T1 h1 v1 C1 A1 M1 q1
    obtain ⟨rfl, rfl⟩ := q1
    refine C1.aL (Y60 5 rfl) rfl rfl (C1.ic (z := 0) (Y60 6 rfl) rfl ?_)
    refine C1.caload V ⟨by decide, by decide⟩ (v := (.int z0)) rfl (Y60 7 rfl) (pc' := 12) rfl ?_
    refine C1.cN (Y60 8 rfl) (XT.ii_ne_f rfl) (C1.iL (Y60 9 rfl) rfl (C1.ic (z := 1) (Y60 10 rfl) rfl (C1.cY (pc' := 31) (Y60 11 rfl) (XT.ii_le_t (by decide)) (by decide) rfl (C1.iL (Y60 19 rfl) rfl (C1.ic (z := 2) (Y60 20 rfl) rfl (C1.cY (pc' := 47) (Y60 21 rfl) (XT.ii_le_t (by decide)) (by decide) rfl (C1.iL (Y60 29 rfl) rfl (C1.ic (z := 3) (Y60 30 rfl) rfl (C1.cY (pc' := 63) (Y60 31 rfl) (XT.ii_le_t (by decide)) (by decide) rfl ?_)))))))))
    refine C1.iL (Y60 39 rfl) rfl (C1.ic (z := 4) (Y60 40 rfl) rfl (C1.cY (pc' := 79) (Y60 41 rfl) (XT.ii_le_t (by decide)) (by decide) rfl (C1.iL (Y60 49 rfl) rfl (C1.ic (z := 5) (Y60 50 rfl) rfl (C1.cY (pc' := 95) (Y60 51 rfl) (XT.ii_le_t (by decide)) (by decide) rfl (C1.ic (z := 1) (Y60 59 rfl) rfl (C1.go (pc' := 100) (Y60 60 rfl) (by decide) rfl ?_)))))))
    exact C1.retI (t := .boolean) rfl (by simp) rfl (Y60 61 rfl) (by decide) (by decide) ⟨rfl, rfl⟩
  · show Endw p e below T0 (mkF m 0 #[.val (.ref a), .val (.ref b), .val (.int 2)] []) _
    refine C0.iL (Y60 0 rfl) rfl (C0.fN (Y60 1 rfl) (XT.i0_le_f (by decide)) (C0.aL (Y60 2 rfl) rfl rfl (C0.ic (z := 0) (Y60 3 rfl) rfl ?_)))
    refine C0.virtual (W := 0) (W377 hw) (W92 hw) (fun _ q => notFace_of_selects (args := #[]) (mvT q (W94 hw))) (W94 hw) (W93 hw) (W95 hw) (W10 hw) (by decide) (rm_chr l Z a0 EL G a t ka rs 0 z0 h C0.old S (by omega) (hs 0 (by omega))) (fun _ => rfl) rfl S.1 all0 (by decide) (by decide) (by decide) (by decide) (lenOf pd_28492943 rfl) rfl (nb rfl) rfl (Y60 4 rfl) (pc' := 9) rfl ?_
    intro vm2 T2 h2 v2 C2 A2 M2 q2
    obtain ⟨rfl, rfl⟩ := q2
    refine C2.aL (Y60 5 rfl) rfl rfl (C2.ic (z := 0) (Y60 6 rfl) rfl ?_)
    refine C2.caload V ⟨by decide, by decide⟩ (v := (.int z0)) rfl (Y60 7 rfl) (pc' := 12) rfl ?_
    refine C2.cN (Y60 8 rfl) (XT.ii_ne_f rfl) (C2.iL (Y60 9 rfl) rfl (C2.ic (z := 1) (Y60 10 rfl) rfl (C2.cN (Y60 11 rfl) (XT.ii_le_f (by decide)) (C2.aL (Y60 12 rfl) rfl rfl (C2.ic (z := 1) (Y60 13 rfl) rfl ?_)))))
    refine C2.virtual (W := 0) (W377 hw) (W92 hw) (fun _ q => notFace_of_selects (args := #[]) (mvT q (W94 hw))) (W94 hw) (W93 hw) (W95 hw) (W10 hw) (by decide) (rm_chr l Z a0 EL G a t ka rs 1 z1 h C2.old S (by omega) (hs 1 (by omega))) (fun _ => rfl) rfl S.1 all0 (by decide) (by decide) (by decide) (by decide) (lenOf pd_28492943 rfl) rfl (nb rfl) rfl (Y60 14 rfl) (pc' := 25) rfl ?_
    intro vm3 T3 h3 v3 C3 A3 M3 q3
    obtain ⟨rfl, rfl⟩ := q3
    refine C3.aL (Y60 15 rfl) rfl rfl (C3.ic (z := 1) (Y60 16 rfl) rfl ?_)
    refine C3.caload V ⟨by decide, by decide⟩ (v := (.int z1)) rfl (Y60 17 rfl) (pc' := 28) rfl ?_
    refine C3.cN (Y60 18 rfl) (XT.ii_ne_f rfl) (C3.iL (Y60 19 rfl) rfl (C3.ic (z := 2) (Y60 20 rfl) rfl (C3.cY (pc' := 47) (Y60 21 rfl) (XT.ii_le_t (by decide)) (by decide) rfl (C3.iL (Y60 29 rfl) rfl (C3.ic (z := 3) (Y60 30 rfl) rfl (C3.cY (pc' := 63) (Y60 31 rfl) (XT.ii_le_t (by decide)) (by decide) rfl (C3.iL (Y60 39 rfl) rfl (C3.ic (z := 4) (Y60 40 rfl) rfl (C3.cY (pc' := 79) (Y60 41 rfl) (XT.ii_le_t (by decide)) (by decide) rfl ?_)))))))))
    refine C3.iL (Y60 49 rfl) rfl (C3.ic (z := 5) (Y60 50 rfl) rfl (C3.cY (pc' := 95) (Y60 51 rfl) (XT.ii_le_t (by decide)) (by decide) rfl (C3.ic (z := 1) (Y60 59 rfl) rfl (C3.go (pc' := 100) (Y60 60 rfl) (by decide) rfl ?_))))
    exact C3.retI (t := .boolean) rfl (by simp) rfl (Y60 61 rfl) (by decide) (by decide) ⟨rfl, rfl⟩
  · show Endw p e below T0 (mkF m 0 #[.val (.ref a), .val (.ref b), .val (.int 3)] []) _
    refine C0.iL (Y60 0 rfl) rfl (C0.fN (Y60 1 rfl) (XT.i0_le_f (by decide)) (C0.aL (Y60 2 rfl) rfl rfl (C0.ic (z := 0) (Y60 3 rfl) rfl ?_)))
    refine C0.virtual (W := 0) (W377 hw) (W92 hw) (fun _ q => notFace_of_selects (args := #[]) (mvT q (W94 hw))) (W94 hw) (W93 hw) (W95 hw) (W10 hw) (by decide) (rm_chr l Z a0 EL G a t ka rs 0 z0 h C0.old S (by omega) (hs 0 (by omega))) (fun _ => rfl) rfl S.1 all0 (by decide) (by decide) (by decide) (by decide) (lenOf pd_28492943 rfl) rfl (nb rfl) rfl (Y60 4 rfl) (pc' := 9) rfl ?_
    intro vm4 T4 h4 v4 C4 A4 M4 q4
    obtain ⟨rfl, rfl⟩ := q4
    refine C4.aL (Y60 5 rfl) rfl rfl (C4.ic (z := 0) (Y60 6 rfl) rfl ?_)
    refine C4.caload V ⟨by decide, by decide⟩ (v := (.int z0)) rfl (Y60 7 rfl) (pc' := 12) rfl ?_
    refine C4.cN (Y60 8 rfl) (XT.ii_ne_f rfl) (C4.iL (Y60 9 rfl) rfl (C4.ic (z := 1) (Y60 10 rfl) rfl (C4.cN (Y60 11 rfl) (XT.ii_le_f (by decide)) (C4.aL (Y60 12 rfl) rfl rfl (C4.ic (z := 1) (Y60 13 rfl) rfl ?_)))))
    refine C4.virtual (W := 0) (W377 hw) (W92 hw) (fun _ q => notFace_of_selects (args := #[]) (mvT q (W94 hw))) (W94 hw) (W93 hw) (W95 hw) (W10 hw) (by decide) (rm_chr l Z a0 EL G a t ka rs 1 z1 h C4.old S (by omega) (hs 1 (by omega))) (fun _ => rfl) rfl S.1 all0 (by decide) (by decide) (by decide) (by decide) (lenOf pd_28492943 rfl) rfl (nb rfl) rfl (Y60 14 rfl) (pc' := 25) rfl ?_
    intro vm5 T5 h5 v5 C5 A5 M5 q5
    obtain ⟨rfl, rfl⟩ := q5
    refine C5.aL (Y60 15 rfl) rfl rfl (C5.ic (z := 1) (Y60 16 rfl) rfl ?_)
    refine C5.caload V ⟨by decide, by decide⟩ (v := (.int z1)) rfl (Y60 17 rfl) (pc' := 28) rfl ?_
    refine C5.cN (Y60 18 rfl) (XT.ii_ne_f rfl) (C5.iL (Y60 19 rfl) rfl (C5.ic (z := 2) (Y60 20 rfl) rfl (C5.cN (Y60 21 rfl) (XT.ii_le_f (by decide)) (C5.aL (Y60 22 rfl) rfl rfl (C5.ic (z := 2) (Y60 23 rfl) rfl ?_)))))
    refine C5.virtual (W := 0) (W377 hw) (W92 hw) (fun _ q => notFace_of_selects (args := #[]) (mvT q (W94 hw))) (W94 hw) (W93 hw) (W95 hw) (W10 hw) (by decide) (rm_chr l Z a0 EL G a t ka rs 2 z2 h C5.old S (by omega) (hs 2 (by omega))) (fun _ => rfl) rfl S.1 all0 (by decide) (by decide) (by decide) (by decide) (lenOf pd_28492943 rfl) rfl (nb rfl) rfl (Y60 24 rfl) (pc' := 41) rfl ?_
    intro vm6 T6 h6 v6 C6 A6 M6 q6
    obtain ⟨rfl, rfl⟩ := q6
    refine C6.aL (Y60 25 rfl) rfl rfl (C6.ic (z := 2) (Y60 26 rfl) rfl ?_)
    refine C6.caload V ⟨by decide, by decide⟩ (v := (.int z2)) rfl (Y60 27 rfl) (pc' := 44) rfl ?_
    refine C6.cN (Y60 28 rfl) (XT.ii_ne_f rfl) (C6.iL (Y60 29 rfl) rfl (C6.ic (z := 3) (Y60 30 rfl) rfl (C6.cY (pc' := 63) (Y60 31 rfl) (XT.ii_le_t (by decide)) (by decide) rfl (C6.iL (Y60 39 rfl) rfl (C6.ic (z := 4) (Y60 40 rfl) rfl (C6.cY (pc' := 79) (Y60 41 rfl) (XT.ii_le_t (by decide)) (by decide) rfl (C6.iL (Y60 49 rfl) rfl (C6.ic (z := 5) (Y60 50 rfl) rfl (C6.cY (pc' := 95) (Y60 51 rfl) (XT.ii_le_t (by decide)) (by decide) rfl ?_)))))))))
    refine C6.ic (z := 1) (Y60 59 rfl) rfl (C6.go (pc' := 100) (Y60 60 rfl) (by decide) rfl ?_)
    exact C6.retI (t := .boolean) rfl (by simp) rfl (Y60 61 rfl) (by decide) (by decide) ⟨rfl, rfl⟩
  · show Endw p e below T0 (mkF m 0 #[.val (.ref a), .val (.ref b), .val (.int 4)] []) _
    refine C0.iL (Y60 0 rfl) rfl (C0.fN (Y60 1 rfl) (XT.i0_le_f (by decide)) (C0.aL (Y60 2 rfl) rfl rfl (C0.ic (z := 0) (Y60 3 rfl) rfl ?_)))
    refine C0.virtual (W := 0) (W377 hw) (W92 hw) (fun _ q => notFace_of_selects (args := #[]) (mvT q (W94 hw))) (W94 hw) (W93 hw) (W95 hw) (W10 hw) (by decide) (rm_chr l Z a0 EL G a t ka rs 0 z0 h C0.old S (by omega) (hs 0 (by omega))) (fun _ => rfl) rfl S.1 all0 (by decide) (by decide) (by decide) (by decide) (lenOf pd_28492943 rfl) rfl (nb rfl) rfl (Y60 4 rfl) (pc' := 9) rfl ?_
    intro vm7 T7 h7 v7 C7 A7 M7 q7
    obtain ⟨rfl, rfl⟩ := q7
    refine C7.aL (Y60 5 rfl) rfl rfl (C7.ic (z := 0) (Y60 6 rfl) rfl ?_)
    refine C7.caload V ⟨by decide, by decide⟩ (v := (.int z0)) rfl (Y60 7 rfl) (pc' := 12) rfl ?_
    refine C7.cN (Y60 8 rfl) (XT.ii_ne_f rfl) (C7.iL (Y60 9 rfl) rfl (C7.ic (z := 1) (Y60 10 rfl) rfl (C7.cN (Y60 11 rfl) (XT.ii_le_f (by decide)) (C7.aL (Y60 12 rfl) rfl rfl (C7.ic (z := 1) (Y60 13 rfl) rfl ?_)))))
    refine C7.virtual (W := 0) (W377 hw) (W92 hw) (fun _ q => notFace_of_selects (args := #[]) (mvT q (W94 hw))) (W94 hw) (W93 hw) (W95 hw) (W10 hw) (by decide) (rm_chr l Z a0 EL G a t ka rs 1 z1 h C7.old S (by omega) (hs 1 (by omega))) (fun _ => rfl) rfl S.1 all0 (by decide) (by decide) (by decide) (by decide) (lenOf pd_28492943 rfl) rfl (nb rfl) rfl (Y60 14 rfl) (pc' := 25) rfl ?_
    intro vm8 T8 h8 v8 C8 A8 M8 q8
    obtain ⟨rfl, rfl⟩ := q8
    refine C8.aL (Y60 15 rfl) rfl rfl (C8.ic (z := 1) (Y60 16 rfl) rfl ?_)
    refine C8.caload V ⟨by decide, by decide⟩ (v := (.int z1)) rfl (Y60 17 rfl) (pc' := 28) rfl ?_
    refine C8.cN (Y60 18 rfl) (XT.ii_ne_f rfl) (C8.iL (Y60 19 rfl) rfl (C8.ic (z := 2) (Y60 20 rfl) rfl (C8.cN (Y60 21 rfl) (XT.ii_le_f (by decide)) (C8.aL (Y60 22 rfl) rfl rfl (C8.ic (z := 2) (Y60 23 rfl) rfl ?_)))))
    refine C8.virtual (W := 0) (W377 hw) (W92 hw) (fun _ q => notFace_of_selects (args := #[]) (mvT q (W94 hw))) (W94 hw) (W93 hw) (W95 hw) (W10 hw) (by decide) (rm_chr l Z a0 EL G a t ka rs 2 z2 h C8.old S (by omega) (hs 2 (by omega))) (fun _ => rfl) rfl S.1 all0 (by decide) (by decide) (by decide) (by decide) (lenOf pd_28492943 rfl) rfl (nb rfl) rfl (Y60 24 rfl) (pc' := 41) rfl ?_
    intro vm9 T9 h9 v9 C9 A9 M9 q9
    obtain ⟨rfl, rfl⟩ := q9
    refine C9.aL (Y60 25 rfl) rfl rfl (C9.ic (z := 2) (Y60 26 rfl) rfl ?_)
    refine C9.caload V ⟨by decide, by decide⟩ (v := (.int z2)) rfl (Y60 27 rfl) (pc' := 44) rfl ?_
    refine C9.cN (Y60 28 rfl) (XT.ii_ne_f rfl) (C9.iL (Y60 29 rfl) rfl (C9.ic (z := 3) (Y60 30 rfl) rfl (C9.cN (Y60 31 rfl) (XT.ii_le_f (by decide)) (C9.aL (Y60 32 rfl) rfl rfl (C9.ic (z := 3) (Y60 33 rfl) rfl ?_)))))
    refine C9.virtual (W := 0) (W377 hw) (W92 hw) (fun _ q => notFace_of_selects (args := #[]) (mvT q (W94 hw))) (W94 hw) (W93 hw) (W95 hw) (W10 hw) (by decide) (rm_chr l Z a0 EL G a t ka rs 3 z3 h C9.old S (by omega) (hs 3 (by omega))) (fun _ => rfl) rfl S.1 all0 (by decide) (by decide) (by decide) (by decide) (lenOf pd_28492943 rfl) rfl (nb rfl) rfl (Y60 34 rfl) (pc' := 57) rfl ?_
    intro vm10 T10 h10 v10 C10 A10 M10 q10
    obtain ⟨rfl, rfl⟩ := q10
    refine C10.aL (Y60 35 rfl) rfl rfl (C10.ic (z := 3) (Y60 36 rfl) rfl ?_)
    refine C10.caload V ⟨by decide, by decide⟩ (v := (.int z3)) rfl (Y60 37 rfl) (pc' := 60) rfl ?_
    refine C10.cN (Y60 38 rfl) (XT.ii_ne_f rfl) (C10.iL (Y60 39 rfl) rfl (C10.ic (z := 4) (Y60 40 rfl) rfl (C10.cY (pc' := 79) (Y60 41 rfl) (XT.ii_le_t (by decide)) (by decide) rfl (C10.iL (Y60 49 rfl) rfl (C10.ic (z := 5) (Y60 50 rfl) rfl (C10.cY (pc' := 95) (Y60 51 rfl) (XT.ii_le_t (by decide)) (by decide) rfl (C10.ic (z := 1) (Y60 59 rfl) rfl (C10.go (pc' := 100) (Y60 60 rfl) (by decide) rfl ?_))))))))
    exact C10.retI (t := .boolean) rfl (by simp) rfl (Y60 61 rfl) (by decide) (by decide) ⟨rfl, rfl⟩
  · show Endw p e below T0 (mkF m 0 #[.val (.ref a), .val (.ref b), .val (.int 5)] []) _
    refine C0.iL (Y60 0 rfl) rfl (C0.fN (Y60 1 rfl) (XT.i0_le_f (by decide)) (C0.aL (Y60 2 rfl) rfl rfl (C0.ic (z := 0) (Y60 3 rfl) rfl ?_)))
    refine C0.virtual (W := 0) (W377 hw) (W92 hw) (fun _ q => notFace_of_selects (args := #[]) (mvT q (W94 hw))) (W94 hw) (W93 hw) (W95 hw) (W10 hw) (by decide) (rm_chr l Z a0 EL G a t ka rs 0 z0 h C0.old S (by omega) (hs 0 (by omega))) (fun _ => rfl) rfl S.1 all0 (by decide) (by decide) (by decide) (by decide) (lenOf pd_28492943 rfl) rfl (nb rfl) rfl (Y60 4 rfl) (pc' := 9) rfl ?_
    intro vm11 T11 h11 v11 C11 A11 M11 q11
    obtain ⟨rfl, rfl⟩ := q11
    refine C11.aL (Y60 5 rfl) rfl rfl (C11.ic (z := 0) (Y60 6 rfl) rfl ?_)
    refine C11.caload V ⟨by decide, by decide⟩ (v := (.int z0)) rfl (Y60 7 rfl) (pc' := 12) rfl ?_
    refine C11.cN (Y60 8 rfl) (XT.ii_ne_f rfl) (C11.iL (Y60 9 rfl) rfl (C11.ic (z := 1) (Y60 10 rfl) rfl (C11.cN (Y60 11 rfl) (XT.ii_le_f (by decide)) (C11.aL (Y60 12 rfl) rfl rfl (C11.ic (z := 1) (Y60 13 rfl) rfl ?_)))))
    refine C11.virtual (W := 0) (W377 hw) (W92 hw) (fun _ q => notFace_of_selects (args := #[]) (mvT q (W94 hw))) (W94 hw) (W93 hw) (W95 hw) (W10 hw) (by decide) (rm_chr l Z a0 EL G a t ka rs 1 z1 h C11.old S (by omega) (hs 1 (by omega))) (fun _ => rfl) rfl S.1 all0 (by decide) (by decide) (by decide) (by decide) (lenOf pd_28492943 rfl) rfl (nb rfl) rfl (Y60 14 rfl) (pc' := 25) rfl ?_
    intro vm12 T12 h12 v12 C12 A12 M12 q12
    obtain ⟨rfl, rfl⟩ := q12
    refine C12.aL (Y60 15 rfl) rfl rfl (C12.ic (z := 1) (Y60 16 rfl) rfl ?_)
    refine C12.caload V ⟨by decide, by decide⟩ (v := (.int z1)) rfl (Y60 17 rfl) (pc' := 28) rfl ?_
    refine C12.cN (Y60 18 rfl) (XT.ii_ne_f rfl) (C12.iL (Y60 19 rfl) rfl (C12.ic (z := 2) (Y60 20 rfl) rfl (C12.cN (Y60 21 rfl) (XT.ii_le_f (by decide)) (C12.aL (Y60 22 rfl) rfl rfl (C12.ic (z := 2) (Y60 23 rfl) rfl ?_)))))
    refine C12.virtual (W := 0) (W377 hw) (W92 hw) (fun _ q => notFace_of_selects (args := #[]) (mvT q (W94 hw))) (W94 hw) (W93 hw) (W95 hw) (W10 hw) (by decide) (rm_chr l Z a0 EL G a t ka rs 2 z2 h C12.old S (by omega) (hs 2 (by omega))) (fun _ => rfl) rfl S.1 all0 (by decide) (by decide) (by decide) (by decide) (lenOf pd_28492943 rfl) rfl (nb rfl) rfl (Y60 24 rfl) (pc' := 41) rfl ?_
    intro vm13 T13 h13 v13 C13 A13 M13 q13
    obtain ⟨rfl, rfl⟩ := q13
    refine C13.aL (Y60 25 rfl) rfl rfl (C13.ic (z := 2) (Y60 26 rfl) rfl ?_)
    refine C13.caload V ⟨by decide, by decide⟩ (v := (.int z2)) rfl (Y60 27 rfl) (pc' := 44) rfl ?_
    refine C13.cN (Y60 28 rfl) (XT.ii_ne_f rfl) (C13.iL (Y60 29 rfl) rfl (C13.ic (z := 3) (Y60 30 rfl) rfl (C13.cN (Y60 31 rfl) (XT.ii_le_f (by decide)) (C13.aL (Y60 32 rfl) rfl rfl (C13.ic (z := 3) (Y60 33 rfl) rfl ?_)))))
    refine C13.virtual (W := 0) (W377 hw) (W92 hw) (fun _ q => notFace_of_selects (args := #[]) (mvT q (W94 hw))) (W94 hw) (W93 hw) (W95 hw) (W10 hw) (by decide) (rm_chr l Z a0 EL G a t ka rs 3 z3 h C13.old S (by omega) (hs 3 (by omega))) (fun _ => rfl) rfl S.1 all0 (by decide) (by decide) (by decide) (by decide) (lenOf pd_28492943 rfl) rfl (nb rfl) rfl (Y60 34 rfl) (pc' := 57) rfl ?_
    intro vm14 T14 h14 v14 C14 A14 M14 q14
    obtain ⟨rfl, rfl⟩ := q14
    refine C14.aL (Y60 35 rfl) rfl rfl (C14.ic (z := 3) (Y60 36 rfl) rfl ?_)
    refine C14.caload V ⟨by decide, by decide⟩ (v := (.int z3)) rfl (Y60 37 rfl) (pc' := 60) rfl ?_
    refine C14.cN (Y60 38 rfl) (XT.ii_ne_f rfl) (C14.iL (Y60 39 rfl) rfl (C14.ic (z := 4) (Y60 40 rfl) rfl (C14.cN (Y60 41 rfl) (XT.ii_le_f (by decide)) (C14.aL (Y60 42 rfl) rfl rfl (C14.ic (z := 4) (Y60 43 rfl) rfl ?_)))))
    refine C14.virtual (W := 0) (W377 hw) (W92 hw) (fun _ q => notFace_of_selects (args := #[]) (mvT q (W94 hw))) (W94 hw) (W93 hw) (W95 hw) (W10 hw) (by decide) (rm_chr l Z a0 EL G a t ka rs 4 z4 h C14.old S (by omega) (hs 4 (by omega))) (fun _ => rfl) rfl S.1 all0 (by decide) (by decide) (by decide) (by decide) (lenOf pd_28492943 rfl) rfl (nb rfl) rfl (Y60 44 rfl) (pc' := 73) rfl ?_
    intro vm15 T15 h15 v15 C15 A15 M15 q15
    obtain ⟨rfl, rfl⟩ := q15
    refine C15.aL (Y60 45 rfl) rfl rfl (C15.ic (z := 4) (Y60 46 rfl) rfl ?_)
    refine C15.caload V ⟨by decide, by decide⟩ (v := (.int z4)) rfl (Y60 47 rfl) (pc' := 76) rfl ?_
    refine C15.cN (Y60 48 rfl) (XT.ii_ne_f rfl) (C15.iL (Y60 49 rfl) rfl (C15.ic (z := 5) (Y60 50 rfl) rfl (C15.cY (pc' := 95) (Y60 51 rfl) (XT.ii_le_t (by decide)) (by decide) rfl (C15.ic (z := 1) (Y60 59 rfl) rfl (C15.go (pc' := 100) (Y60 60 rfl) (by decide) rfl ?_)))))
    exact C15.retI (t := .boolean) rfl (by simp) rfl (Y60 61 rfl) (by decide) (by decide) ⟨rfl, rfl⟩
  · show Endw p e below T0 (mkF m 0 #[.val (.ref a), .val (.ref b), .val (.int 6)] []) _
    refine C0.iL (Y60 0 rfl) rfl (C0.fN (Y60 1 rfl) (XT.i0_le_f (by decide)) (C0.aL (Y60 2 rfl) rfl rfl (C0.ic (z := 0) (Y60 3 rfl) rfl ?_)))
    refine C0.virtual (W := 0) (W377 hw) (W92 hw) (fun _ q => notFace_of_selects (args := #[]) (mvT q (W94 hw))) (W94 hw) (W93 hw) (W95 hw) (W10 hw) (by decide) (rm_chr l Z a0 EL G a t ka rs 0 z0 h C0.old S (by omega) (hs 0 (by omega))) (fun _ => rfl) rfl S.1 all0 (by decide) (by decide) (by decide) (by decide) (lenOf pd_28492943 rfl) rfl (nb rfl) rfl (Y60 4 rfl) (pc' := 9) rfl ?_
    intro vm16 T16 h16 v16 C16 A16 M16 q16
    obtain ⟨rfl, rfl⟩ := q16
    refine C16.aL (Y60 5 rfl) rfl rfl (C16.ic (z := 0) (Y60 6 rfl) rfl ?_)
    refine C16.caload V ⟨by decide, by decide⟩ (v := (.int z0)) rfl (Y60 7 rfl) (pc' := 12) rfl ?_
    refine C16.cN (Y60 8 rfl) (XT.ii_ne_f rfl) (C16.iL (Y60 9 rfl) rfl (C16.ic (z := 1) (Y60 10 rfl) rfl (C16.cN (Y60 11 rfl) (XT.ii_le_f (by decide)) (C16.aL (Y60 12 rfl) rfl rfl (C16.ic (z := 1) (Y60 13 rfl) rfl ?_)))))
    refine C16.virtual (W := 0) (W377 hw) (W92 hw) (fun _ q => notFace_of_selects (args := #[]) (mvT q (W94 hw))) (W94 hw) (W93 hw) (W95 hw) (W10 hw) (by decide) (rm_chr l Z a0 EL G a t ka rs 1 z1 h C16.old S (by omega) (hs 1 (by omega))) (fun _ => rfl) rfl S.1 all0 (by decide) (by decide) (by decide) (by decide) (lenOf pd_28492943 rfl) rfl (nb rfl) rfl (Y60 14 rfl) (pc' := 25) rfl ?_
    intro vm17 T17 h17 v17 C17 A17 M17 q17
    obtain ⟨rfl, rfl⟩ := q17
    refine C17.aL (Y60 15 rfl) rfl rfl (C17.ic (z := 1) (Y60 16 rfl) rfl ?_)
    refine C17.caload V ⟨by decide, by decide⟩ (v := (.int z1)) rfl (Y60 17 rfl) (pc' := 28) rfl ?_
    refine C17.cN (Y60 18 rfl) (XT.ii_ne_f rfl) (C17.iL (Y60 19 rfl) rfl (C17.ic (z := 2) (Y60 20 rfl) rfl (C17.cN (Y60 21 rfl) (XT.ii_le_f (by decide)) (C17.aL (Y60 22 rfl) rfl rfl (C17.ic (z := 2) (Y60 23 rfl) rfl ?_)))))
    refine C17.virtual (W := 0) (W377 hw) (W92 hw) (fun _ q => notFace_of_selects (args := #[]) (mvT q (W94 hw))) (W94 hw) (W93 hw) (W95 hw) (W10 hw) (by decide) (rm_chr l Z a0 EL G a t ka rs 2 z2 h C17.old S (by omega) (hs 2 (by omega))) (fun _ => rfl) rfl S.1 all0 (by decide) (by decide) (by decide) (by decide) (lenOf pd_28492943 rfl) rfl (nb rfl) rfl (Y60 24 rfl) (pc' := 41) rfl ?_
    intro vm18 T18 h18 v18 C18 A18 M18 q18
    obtain ⟨rfl, rfl⟩ := q18
    refine C18.aL (Y60 25 rfl) rfl rfl (C18.ic (z := 2) (Y60 26 rfl) rfl ?_)
    refine C18.caload V ⟨by decide, by decide⟩ (v := (.int z2)) rfl (Y60 27 rfl) (pc' := 44) rfl ?_
    refine C18.cN (Y60 28 rfl) (XT.ii_ne_f rfl) (C18.iL (Y60 29 rfl) rfl (C18.ic (z := 3) (Y60 30 rfl) rfl (C18.cN (Y60 31 rfl) (XT.ii_le_f (by decide)) (C18.aL (Y60 32 rfl) rfl rfl (C18.ic (z := 3) (Y60 33 rfl) rfl ?_)))))
    refine C18.virtual (W := 0) (W377 hw) (W92 hw) (fun _ q => notFace_of_selects (args := #[]) (mvT q (W94 hw))) (W94 hw) (W93 hw) (W95 hw) (W10 hw) (by decide) (rm_chr l Z a0 EL G a t ka rs 3 z3 h C18.old S (by omega) (hs 3 (by omega))) (fun _ => rfl) rfl S.1 all0 (by decide) (by decide) (by decide) (by decide) (lenOf pd_28492943 rfl) rfl (nb rfl) rfl (Y60 34 rfl) (pc' := 57) rfl ?_
    intro vm19 T19 h19 v19 C19 A19 M19 q19
    obtain ⟨rfl, rfl⟩ := q19
    refine C19.aL (Y60 35 rfl) rfl rfl (C19.ic (z := 3) (Y60 36 rfl) rfl ?_)
    refine C19.caload V ⟨by decide, by decide⟩ (v := (.int z3)) rfl (Y60 37 rfl) (pc' := 60) rfl ?_
    refine C19.cN (Y60 38 rfl) (XT.ii_ne_f rfl) (C19.iL (Y60 39 rfl) rfl (C19.ic (z := 4) (Y60 40 rfl) rfl (C19.cN (Y60 41 rfl) (XT.ii_le_f (by decide)) (C19.aL (Y60 42 rfl) rfl rfl (C19.ic (z := 4) (Y60 43 rfl) rfl ?_)))))
    refine C19.virtual (W := 0) (W377 hw) (W92 hw) (fun _ q => notFace_of_selects (args := #[]) (mvT q (W94 hw))) (W94 hw) (W93 hw) (W95 hw) (W10 hw) (by decide) (rm_chr l Z a0 EL G a t ka rs 4 z4 h C19.old S (by omega) (hs 4 (by omega))) (fun _ => rfl) rfl S.1 all0 (by decide) (by decide) (by decide) (by decide) (lenOf pd_28492943 rfl) rfl (nb rfl) rfl (Y60 44 rfl) (pc' := 73) rfl ?_
    intro vm20 T20 h20 v20 C20 A20 M20 q20
    obtain ⟨rfl, rfl⟩ := q20
    refine C20.aL (Y60 45 rfl) rfl rfl (C20.ic (z := 4) (Y60 46 rfl) rfl ?_)
    refine C20.caload V ⟨by decide, by decide⟩ (v := (.int z4)) rfl (Y60 47 rfl) (pc' := 76) rfl ?_
    refine C20.cN (Y60 48 rfl) (XT.ii_ne_f rfl) (C20.iL (Y60 49 rfl) rfl (C20.ic (z := 5) (Y60 50 rfl) rfl (C20.cN (Y60 51 rfl) (XT.ii_le_f (by decide)) (C20.aL (Y60 52 rfl) rfl rfl (C20.ic (z := 5) (Y60 53 rfl) rfl ?_)))))
    refine C20.virtual (W := 0) (W377 hw) (W92 hw) (fun _ q => notFace_of_selects (args := #[]) (mvT q (W94 hw))) (W94 hw) (W93 hw) (W95 hw) (W10 hw) (by decide) (rm_chr l Z a0 EL G a t ka rs 5 z5 h C20.old S (by omega) (hs 5 (by omega))) (fun _ => rfl) rfl S.1 all0 (by decide) (by decide) (by decide) (by decide) (lenOf pd_28492943 rfl) rfl (nb rfl) rfl (Y60 54 rfl) (pc' := 89) rfl ?_
    intro vm21 T21 h21 v21 C21 A21 M21 q21
    obtain ⟨rfl, rfl⟩ := q21
    refine C21.aL (Y60 55 rfl) rfl rfl (C21.ic (z := 5) (Y60 56 rfl) rfl ?_)
    refine C21.caload V ⟨by decide, by decide⟩ (v := (.int z5)) rfl (Y60 57 rfl) (pc' := 92) rfl ?_
    refine C21.cN (Y60 58 rfl) (XT.ii_ne_f rfl) (C21.ic (z := 1) (Y60 59 rfl) rfl (C21.go (pc' := 100) (Y60 60 rfl) (by decide) rfl ?_))
    exact C21.retI (t := .boolean) rfl (by simp) rfl (Y60 61 rfl) (by decide) (by decide) ⟨rfl, rfl⟩
theorem rm_law (G : Glob Z a0 EL) (i0 i1 i2 : Int32) (h : Heap) (O : Ext Z.heap h)  :
    Met l Z EL false x code maxLocals ret tables_1 room_1 #[(.int i0), (.int i1), (.int i2)] h [] (fun r h' => r = some (.int 1)) := by
  have hw := G.hw
  obtain ⟨zc, Sc, hzc⟩ := G.cs
  obtain ⟨vo, So, hvo⟩ := G.fo
  refine Met.of (plainFor_of_name pn_50696e4c6177_2) G.ew O ?_
  intro p e s m below meth c T0 C0 S0
  refine Endw.eq (g' := mkF m 0 #[.val (.int i0), .val (.int i1), .val (.int i2), .unset, .unset, .unset, .unset, .unset, .unset, .unset, .unset, .unset, .unset, .unset, .unset, .unset, .unset, .unset, .unset, .unset, .unset] []) (by simp [entryFrame, mkF, argsToLocals, own_cI, own_cR, own_cN, own_cJ, own_cD, maxLocals]) ?_
  have J248 : ∀ (x : Addr) (kx : ClassId) (z0 : Int32) (z1 : Int32) (z2 : Int32) (z3 : Int32) (z4 : Int32) (z5 : Int32) (l9 : Slot) (l10 : Slot) (l15 : Slot) (w0 : Addr) (w1 : Addr) (w2 : Addr) (w3 : Addr) (t0 : Addr) (t1 : Addr) (t2 : Addr) (t3 : Addr) (k0 : ClassId) (k1 : ClassId) (k2 : ClassId) (k3 : ClassId) (vm : Vm) (T : State) (hh : Heap), (0 < (own_ix 58 [z0, z1, z2, z3, z4, z5])) → ((own_ix 58 [z0, z1, z2, z3, z4, z5]) < (own_qm [z0, z1, z2, z3, z4, z5])) → (Arv Z hh x kx .char (6 : Int32) [(.int z0), (.int z1), (.int z2), (.int z3), (.int z4), (.int z5)] (.int 0)) → (Str Z hh w0 t0 k0 (own_sl [z0, z1, z2, z3, z4, z5] 0 (own_ix 35 [z0, z1, z2, z3, z4, z5]) ++ [])) → (Str Z hh w1 t1 k1 (own_sl [z0, z1, z2, z3, z4, z5] 0 (own_qm [z0, z1, z2, z3, z4, z5]) ++ [(63 : Int32)])) → (Str Z hh w2 t2 k2 (own_sl [z0, z1, z2, z3, z4, z5] 0 (own_ps [z0, z1, z2, z3, z4, z5]) ++ [(47 : Int32), (121 : Int32)])) → (Str Z hh w3 t3 k3 (own_sl [z0, z1, z2, z3, z4, z5] 0 ((own_ix 58 [z0, z1, z2, z3, z4, z5]) + 1) ++ [(47 : Int32), (47 : Int32), (120 : Int32)])) → (Keep h hh []) → (CHr Z EL s.vm h vm hh) → Core p l e room_1 s m #[(.int i0), (.int i1), (.int i2)] below meth c code 21 (some .boolean) "law" "com/example/quadrille/quadrille/rdf/BaseIriOfPinLaw" Z a0 EL false vm T hh 121 750 → Endw p e below T (mkF m 248 #[.val (.int i0), .val (.int i1), .val (.int i2), .val (.ref x), .val (.int (Int32.ofNat (own_ix 35 [z0, z1, z2, z3, z4, z5]))), .val (.int (Int32.ofNat (own_ix 63 [z0, z1, z2, z3, z4, z5]))), .val (.int (Int32.ofNat (own_qm [z0, z1, z2, z3, z4, z5]))), .val (.int (Int32.ofNat (own_ix 58 [z0, z1, z2, z3, z4, z5]))), .val (.int (Int32.ofNat (own_ix 47 [z0, z1, z2, z3, z4, z5]))), l9, l10, .val (.ref w0), .val (.ref w1), .val (.ref w2), .val (.ref w3), l15, .val (.int (Int32.ofNat (own_ps [z0, z1, z2, z3, z4, z5]))), .unset, .unset, .unset, .unset] []) (Fin s Z EL false (fun r h' => r = some (.int 1)) (room_1).cells (room_1).slots) := by
    intro x kx z0 z1 z2 z3 z4 z5 l9 l10 l15 w0 w1 w2 w3 t0 t1 t2 t3 k0 k1 k2 k3 vm T hh p0 p2 V R0 R1 R2 R3 K A C
    have b35 : (own_ix 35 [z0, z1, z2, z3, z4, z5]) ≤ 6 := own_ix_le 35 _
    have bqf : (own_qm [z0, z1, z2, z3, z4, z5]) ≤ (own_ix 35 [z0, z1, z2, z3, z4, z5]) := own_qm_fm _
    have bps : (own_ps [z0, z1, z2, z3, z4, z5]) ≤ (own_qm [z0, z1, z2, z3, z4, z5]) := own_ps_le _
    refine C.aLk at_248 rfl rfl ?_
    refine C.virtual (W := 0) (wd hw 373 rfl) (W61 hw) (fun _ q => notFace_of_selects (args := #[]) (mvT q (W63 hw))) (W63 hw) (W62 hw) (W64 hw) (W10 hw) (by decide) (rm_strLen l Z a0 EL G w0 t0 k0 (own_sl [z0, z1, z2, z3, z4, z5] 0 (own_ix 35 [z0, z1, z2, z3, z4, z5]) ++ []) hh C.old R0) (fun _ => rfl) rfl R0.1 all0 (by decide) (by decide) (by decide) (by decide) (lenOf pd_282949 rfl) rfl (nb rfl) rfl at_250 (pc' := 253) rfl ?_
    intro vm1 T1 h1 v1 C1 A1 M1 q1
    obtain ⟨rfl, rfl⟩ := q1
    refine C1.iLk at_253 rfl (C1.cN at_255 (XT.ii_ne_f (congrArg Int32.ofNat (own_plen (cs := [z0, z1, z2, z3, z4, z5]) (j := (own_ix 35 [z0, z1, z2, z3, z4, z5])) (by show _ ≤ 6; omega)))) (C1.aLk at_258 rfl rfl (C1.aL at_260 rfl rfl (C1.iLk at_261 rfl ?_))))
    refine C1.static (W := 0) (wd hw 374 rfl) (wd hw 375 rfl) (wd hw 376 rfl) (W3 hw) (by decide) (rm_same l Z a0 EL G w0 t0 k0 (own_sl [z0, z1, z2, z3, z4, z5] 0 (own_ix 35 [z0, z1, z2, z3, z4, z5]) ++ []) x kx z0 z1 z2 z3 z4 z5 (own_ix 35 [z0, z1, z2, z3, z4, z5]) hh C1.old R0 V (by omega) (by rw [own_plen (by show _ ≤ 6; omega)]; omega) (own_pfx (by show _ ≤ 6; omega))) (fun _ => rfl) rfl all0 (by decide) (by decide) (by decide) (by decide) (lenOf pd_39 rfl) rfl (nb rfl) rfl at_263 (pc' := 266) rfl ?_
    intro vm2 T2 h2 v2 C2 A2 M2 q2
    obtain ⟨rfl, rfl⟩ := q2
    refine C2.fN at_266 (XT.i0_eq_f (by decide)) (C2.ic (z := 1) at_269 rfl (C2.go (pc' := 274) at_270 (by decide) rfl (C2.iSk at_274 (l' := #[.val (.int i0), .val (.int i1), .val (.int i2), .val (.ref x), .val (.int (Int32.ofNat (own_ix 35 [z0, z1, z2, z3, z4, z5]))), .val (.int (Int32.ofNat (own_ix 63 [z0, z1, z2, z3, z4, z5]))), .val (.int (Int32.ofNat (own_qm [z0, z1, z2, z3, z4, z5]))), .val (.int (Int32.ofNat (own_ix 58 [z0, z1, z2, z3, z4, z5]))), .val (.int (Int32.ofNat (own_ix 47 [z0, z1, z2, z3, z4, z5]))), l9, l10, .val (.ref w0), .val (.ref w1), .val (.ref w2), .val (.ref w3), l15, .val (.int (Int32.ofNat (own_ps [z0, z1, z2, z3, z4, z5]))), .val (.int 1), .unset, .unset, .unset]) rfl (C2.aLk at_276 rfl rfl ?_))))
    refine C2.virtual (W := 0) (wd hw 373 rfl) (W61 hw) (fun _ q => notFace_of_selects (args := #[]) (mvT q (W63 hw))) (W63 hw) (W62 hw) (W64 hw) (W10 hw) (by decide) (rm_strLen l Z a0 EL G w1 t1 k1 (own_sl [z0, z1, z2, z3, z4, z5] 0 (own_qm [z0, z1, z2, z3, z4, z5]) ++ [(63 : Int32)]) hh C2.old R1) (fun _ => rfl) rfl R1.1 all0 (by decide) (by decide) (by decide) (by decide) (lenOf pd_282949 rfl) rfl (nb rfl) rfl at_278 (pc' := 281) rfl ?_
    intro vm3 T3 h3 v3 C3 A3 M3 q3
    obtain ⟨rfl, rfl⟩ := q3
    refine C3.iLk at_281 rfl (C3.ic (z := 1) at_283 rfl (C3.ad (z := ((Int32.ofNat (own_qm [z0, z1, z2, z3, z4, z5])) + (1 : Int32))) at_284 rfl ?_))
    rw [show ((Int32.ofNat (own_qm [z0, z1, z2, z3, z4, z5])) + (1 : Int32)) = (Int32.ofNat ((own_qm [z0, z1, z2, z3, z4, z5]) + 1)) from own_add _ 1]
    refine C3.cN at_285 (XT.ii_ne_f (congrArg Int32.ofNat (own_plen (cs := [z0, z1, z2, z3, z4, z5]) (j := (own_qm [z0, z1, z2, z3, z4, z5])) (by show _ ≤ 6; omega)))) (C3.aLk at_288 rfl rfl (C3.aL at_290 rfl rfl (C3.iLk at_291 rfl ?_)))
    refine C3.static (W := 0) (wd hw 374 rfl) (wd hw 375 rfl) (wd hw 376 rfl) (W3 hw) (by decide) (rm_same l Z a0 EL G w1 t1 k1 (own_sl [z0, z1, z2, z3, z4, z5] 0 (own_qm [z0, z1, z2, z3, z4, z5]) ++ [(63 : Int32)]) x kx z0 z1 z2 z3 z4 z5 (own_qm [z0, z1, z2, z3, z4, z5]) hh C3.old R1 V (by omega) (by rw [own_plen (by show _ ≤ 6; omega)]; omega) (own_pfx (by show _ ≤ 6; omega))) (fun _ => rfl) rfl all0 (by decide) (by decide) (by decide) (by decide) (lenOf pd_39 rfl) rfl (nb rfl) rfl at_293 (pc' := 296) rfl ?_
    intro vm4 T4 h4 v4 C4 A4 M4 q4
    obtain ⟨rfl, rfl⟩ := q4
    refine C4.fN at_296 (XT.i0_eq_f (by decide)) (C4.aLk at_299 rfl rfl (C4.iLk at_301 rfl ?_))
    refine C4.virtual (W := 0) (W377 hw) (W92 hw) (fun _ q => notFace_of_selects (args := #[]) (mvT q (W94 hw))) (W94 hw) (W93 hw) (W95 hw) (W10 hw) (by decide) (rm_chr l Z a0 EL G w1 t1 k1 (own_sl [z0, z1, z2, z3, z4, z5] 0 (own_qm [z0, z1, z2, z3, z4, z5]) ++ [(63 : Int32)]) (own_qm [z0, z1, z2, z3, z4, z5]) (63 : Int32) hh C4.old R1 (by rw [own_plen (by show _ ≤ 6; omega)]; show _ < _ + 1; omega) (own_sfx0 (by show _ ≤ 6; omega))) (fun _ => rfl) rfl R1.1 all0 (by decide) (by decide) (by decide) (by decide) (lenOf pd_28492943 rfl) rfl (nb rfl) rfl at_303 (pc' := 306) rfl ?_
    intro vm5 T5 h5 v5 C5 A5 M5 q5
    obtain ⟨rfl, rfl⟩ := q5
    refine C5.bi (z := 63) at_306 rfl (C5.cN at_308 (XT.ii_ne_f (by decide)) (C5.ic (z := 1) at_311 rfl (C5.go (pc' := 316) at_312 (by decide) rfl (C5.iSk at_316 (l' := #[.val (.int i0), .val (.int i1), .val (.int i2), .val (.ref x), .val (.int (Int32.ofNat (own_ix 35 [z0, z1, z2, z3, z4, z5]))), .val (.int (Int32.ofNat (own_ix 63 [z0, z1, z2, z3, z4, z5]))), .val (.int (Int32.ofNat (own_qm [z0, z1, z2, z3, z4, z5]))), .val (.int (Int32.ofNat (own_ix 58 [z0, z1, z2, z3, z4, z5]))), .val (.int (Int32.ofNat (own_ix 47 [z0, z1, z2, z3, z4, z5]))), l9, l10, .val (.ref w0), .val (.ref w1), .val (.ref w2), .val (.ref w3), l15, .val (.int (Int32.ofNat (own_ps [z0, z1, z2, z3, z4, z5]))), .val (.int 1), .val (.int 1), .unset, .unset]) rfl (C5.aLk at_318 rfl rfl ?_)))))
    refine C5.virtual (W := 0) (wd hw 373 rfl) (W61 hw) (fun _ q => notFace_of_selects (args := #[]) (mvT q (W63 hw))) (W63 hw) (W62 hw) (W64 hw) (W10 hw) (by decide) (rm_strLen l Z a0 EL G w2 t2 k2 (own_sl [z0, z1, z2, z3, z4, z5] 0 (own_ps [z0, z1, z2, z3, z4, z5]) ++ [(47 : Int32), (121 : Int32)]) hh C5.old R2) (fun _ => rfl) rfl R2.1 all0 (by decide) (by decide) (by decide) (by decide) (lenOf pd_282949 rfl) rfl (nb rfl) rfl at_320 (pc' := 323) rfl ?_
    intro vm6 T6 h6 v6 C6 A6 M6 q6
    obtain ⟨rfl, rfl⟩ := q6
    refine C6.iLk at_323 rfl (C6.ic (z := 2) at_325 rfl (C6.ad (z := ((Int32.ofNat (own_ps [z0, z1, z2, z3, z4, z5])) + (2 : Int32))) at_326 rfl ?_))
    rw [show ((Int32.ofNat (own_ps [z0, z1, z2, z3, z4, z5])) + (2 : Int32)) = (Int32.ofNat ((own_ps [z0, z1, z2, z3, z4, z5]) + 2)) from own_add _ 2]
    refine C6.cN at_327 (XT.ii_ne_f (congrArg Int32.ofNat (own_plen (cs := [z0, z1, z2, z3, z4, z5]) (j := (own_ps [z0, z1, z2, z3, z4, z5])) (by show _ ≤ 6; omega)))) (C6.aLk at_330 rfl rfl (C6.aL at_332 rfl rfl (C6.iLk at_333 rfl ?_)))
    refine C6.static (W := 0) (wd hw 374 rfl) (wd hw 375 rfl) (wd hw 376 rfl) (W3 hw) (by decide) (rm_same l Z a0 EL G w2 t2 k2 (own_sl [z0, z1, z2, z3, z4, z5] 0 (own_ps [z0, z1, z2, z3, z4, z5]) ++ [(47 : Int32), (121 : Int32)]) x kx z0 z1 z2 z3 z4 z5 (own_ps [z0, z1, z2, z3, z4, z5]) hh C6.old R2 V (by omega) (by rw [own_plen (by show _ ≤ 6; omega)]; omega) (own_pfx (by show _ ≤ 6; omega))) (fun _ => rfl) rfl all0 (by decide) (by decide) (by decide) (by decide) (lenOf pd_39 rfl) rfl (nb rfl) rfl at_335 (pc' := 338) rfl ?_
    intro vm7 T7 h7 v7 C7 A7 M7 q7
    obtain ⟨rfl, rfl⟩ := q7
    refine C7.fN at_338 (XT.i0_eq_f (by decide)) (C7.aLk at_341 rfl rfl (C7.iLk at_343 rfl ?_))
    refine C7.virtual (W := 0) (W377 hw) (W92 hw) (fun _ q => notFace_of_selects (args := #[]) (mvT q (W94 hw))) (W94 hw) (W93 hw) (W95 hw) (W10 hw) (by decide) (rm_chr l Z a0 EL G w2 t2 k2 (own_sl [z0, z1, z2, z3, z4, z5] 0 (own_ps [z0, z1, z2, z3, z4, z5]) ++ [(47 : Int32), (121 : Int32)]) (own_ps [z0, z1, z2, z3, z4, z5]) (47 : Int32) hh C7.old R2 (by rw [own_plen (by show _ ≤ 6; omega)]; show _ < _ + 2; omega) (own_sfx0 (by show _ ≤ 6; omega))) (fun _ => rfl) rfl R2.1 all0 (by decide) (by decide) (by decide) (by decide) (lenOf pd_28492943 rfl) rfl (nb rfl) rfl at_345 (pc' := 348) rfl ?_
    intro vm8 T8 h8 v8 C8 A8 M8 q8
    obtain ⟨rfl, rfl⟩ := q8
    refine C8.bi (z := 47) at_348 rfl (C8.cN at_350 (XT.ii_ne_f (by decide)) (C8.aLk at_353 rfl rfl (C8.iLk at_355 rfl (C8.ic (z := 1) at_357 rfl (C8.ad (z := ((Int32.ofNat (own_ps [z0, z1, z2, z3, z4, z5])) + (1 : Int32))) at_358 rfl ?_)))))
    rw [show ((Int32.ofNat (own_ps [z0, z1, z2, z3, z4, z5])) + (1 : Int32)) = (Int32.ofNat ((own_ps [z0, z1, z2, z3, z4, z5]) + 1)) from own_add _ 1]
    refine C8.virtual (W := 0) (W377 hw) (W92 hw) (fun _ q => notFace_of_selects (args := #[]) (mvT q (W94 hw))) (W94 hw) (W93 hw) (W95 hw) (W10 hw) (by decide) (rm_chr l Z a0 EL G w2 t2 k2 (own_sl [z0, z1, z2, z3, z4, z5] 0 (own_ps [z0, z1, z2, z3, z4, z5]) ++ [(47 : Int32), (121 : Int32)]) ((own_ps [z0, z1, z2, z3, z4, z5]) + 1) (121 : Int32) hh C8.old R2 (by rw [own_plen (by show _ ≤ 6; omega)]; show _ < _ + 2; omega) (own_sfx (by show _ ≤ 6; omega) 1)) (fun _ => rfl) rfl R2.1 all0 (by decide) (by decide) (by decide) (by decide) (lenOf pd_28492943 rfl) rfl (nb rfl) rfl at_359 (pc' := 362) rfl ?_
    intro vm9 T9 h9 v9 C9 A9 M9 q9
    obtain ⟨rfl, rfl⟩ := q9
    refine C9.bi (z := 121) at_362 rfl (C9.cN at_364 (XT.ii_ne_f (by decide)) (C9.ic (z := 1) at_367 rfl (C9.go (pc' := 372) at_368 (by decide) rfl (C9.iSk at_372 (l' := #[.val (.int i0), .val (.int i1), .val (.int i2), .val (.ref x), .val (.int (Int32.ofNat (own_ix 35 [z0, z1, z2, z3, z4, z5]))), .val (.int (Int32.ofNat (own_ix 63 [z0, z1, z2, z3, z4, z5]))), .val (.int (Int32.ofNat (own_qm [z0, z1, z2, z3, z4, z5]))), .val (.int (Int32.ofNat (own_ix 58 [z0, z1, z2, z3, z4, z5]))), .val (.int (Int32.ofNat (own_ix 47 [z0, z1, z2, z3, z4, z5]))), l9, l10, .val (.ref w0), .val (.ref w1), .val (.ref w2), .val (.ref w3), l15, .val (.int (Int32.ofNat (own_ps [z0, z1, z2, z3, z4, z5]))), .val (.int 1), .val (.int 1), .val (.int 1), .unset]) rfl (C9.aLk at_374 rfl rfl ?_)))))
    refine C9.virtual (W := 0) (wd hw 373 rfl) (W61 hw) (fun _ q => notFace_of_selects (args := #[]) (mvT q (W63 hw))) (W63 hw) (W62 hw) (W64 hw) (W10 hw) (by decide) (rm_strLen l Z a0 EL G w3 t3 k3 (own_sl [z0, z1, z2, z3, z4, z5] 0 ((own_ix 58 [z0, z1, z2, z3, z4, z5]) + 1) ++ [(47 : Int32), (47 : Int32), (120 : Int32)]) hh C9.old R3) (fun _ => rfl) rfl R3.1 all0 (by decide) (by decide) (by decide) (by decide) (lenOf pd_282949 rfl) rfl (nb rfl) rfl at_376 (pc' := 379) rfl ?_
    intro vm10 T10 h10 v10 C10 A10 M10 q10
    obtain ⟨rfl, rfl⟩ := q10
    refine C10.iLk at_379 rfl (C10.ic (z := 4) at_381 rfl (C10.ad (z := ((Int32.ofNat (own_ix 58 [z0, z1, z2, z3, z4, z5])) + (4 : Int32))) at_382 rfl ?_))
    rw [show ((Int32.ofNat (own_ix 58 [z0, z1, z2, z3, z4, z5])) + (4 : Int32)) = (Int32.ofNat (((own_ix 58 [z0, z1, z2, z3, z4, z5]) + 1) + 3)) from own_add _ 4]
    refine C10.cN at_383 (XT.ii_ne_f (congrArg Int32.ofNat (own_plen (cs := [z0, z1, z2, z3, z4, z5]) (j := ((own_ix 58 [z0, z1, z2, z3, z4, z5]) + 1)) (by show _ ≤ 6; omega)))) (C10.aLk at_386 rfl rfl (C10.aL at_388 rfl rfl (C10.iLk at_389 rfl (C10.ic (z := 1) at_391 rfl (C10.ad (z := ((Int32.ofNat (own_ix 58 [z0, z1, z2, z3, z4, z5])) + (1 : Int32))) at_392 rfl ?_)))))
    rw [show ((Int32.ofNat (own_ix 58 [z0, z1, z2, z3, z4, z5])) + (1 : Int32)) = (Int32.ofNat ((own_ix 58 [z0, z1, z2, z3, z4, z5]) + 1)) from own_add _ 1]
    refine C10.static (W := 0) (wd hw 374 rfl) (wd hw 375 rfl) (wd hw 376 rfl) (W3 hw) (by decide) (rm_same l Z a0 EL G w3 t3 k3 (own_sl [z0, z1, z2, z3, z4, z5] 0 ((own_ix 58 [z0, z1, z2, z3, z4, z5]) + 1) ++ [(47 : Int32), (47 : Int32), (120 : Int32)]) x kx z0 z1 z2 z3 z4 z5 ((own_ix 58 [z0, z1, z2, z3, z4, z5]) + 1) hh C10.old R3 V (by omega) (by rw [own_plen (by show _ ≤ 6; omega)]; omega) (own_pfx (by show _ ≤ 6; omega))) (fun _ => rfl) rfl all0 (by decide) (by decide) (by decide) (by decide) (lenOf pd_39 rfl) rfl (nb rfl) rfl at_393 (pc' := 396) rfl ?_
    intro vm11 T11 h11 v11 C11 A11 M11 q11
    obtain ⟨rfl, rfl⟩ := q11
    refine C11.fN at_396 (XT.i0_eq_f (by decide)) (C11.aLk at_399 rfl rfl (C11.iLk at_401 rfl (C11.ic (z := 1) at_403 rfl (C11.ad (z := ((Int32.ofNat (own_ix 58 [z0, z1, z2, z3, z4, z5])) + (1 : Int32))) at_404 rfl ?_))))
    rw [show ((Int32.ofNat (own_ix 58 [z0, z1, z2, z3, z4, z5])) + (1 : Int32)) = (Int32.ofNat ((own_ix 58 [z0, z1, z2, z3, z4, z5]) + 1)) from own_add _ 1]
    refine C11.virtual (W := 0) (W377 hw) (W92 hw) (fun _ q => notFace_of_selects (args := #[]) (mvT q (W94 hw))) (W94 hw) (W93 hw) (W95 hw) (W10 hw) (by decide) (rm_chr l Z a0 EL G w3 t3 k3 (own_sl [z0, z1, z2, z3, z4, z5] 0 ((own_ix 58 [z0, z1, z2, z3, z4, z5]) + 1) ++ [(47 : Int32), (47 : Int32), (120 : Int32)]) ((own_ix 58 [z0, z1, z2, z3, z4, z5]) + 1) (47 : Int32) hh C11.old R3 (by rw [own_plen (by show _ ≤ 6; omega)]; show _ < _ + 3; omega) (own_sfx0 (by show _ ≤ 6; omega))) (fun _ => rfl) rfl R3.1 all0 (by decide) (by decide) (by decide) (by decide) (lenOf pd_28492943 rfl) rfl (nb rfl) rfl at_405 (pc' := 408) rfl ?_
    intro vm12 T12 h12 v12 C12 A12 M12 q12
    obtain ⟨rfl, rfl⟩ := q12
    refine C12.bi (z := 47) at_408 rfl (C12.cN at_410 (XT.ii_ne_f (by decide)) (C12.aLk at_413 rfl rfl (C12.iLk at_415 rfl (C12.ic (z := 2) at_417 rfl (C12.ad (z := ((Int32.ofNat (own_ix 58 [z0, z1, z2, z3, z4, z5])) + (2 : Int32))) at_418 rfl ?_)))))
    rw [show ((Int32.ofNat (own_ix 58 [z0, z1, z2, z3, z4, z5])) + (2 : Int32)) = (Int32.ofNat (((own_ix 58 [z0, z1, z2, z3, z4, z5]) + 1) + 1)) from own_add _ 2]
    refine C12.virtual (W := 0) (W377 hw) (W92 hw) (fun _ q => notFace_of_selects (args := #[]) (mvT q (W94 hw))) (W94 hw) (W93 hw) (W95 hw) (W10 hw) (by decide) (rm_chr l Z a0 EL G w3 t3 k3 (own_sl [z0, z1, z2, z3, z4, z5] 0 ((own_ix 58 [z0, z1, z2, z3, z4, z5]) + 1) ++ [(47 : Int32), (47 : Int32), (120 : Int32)]) (((own_ix 58 [z0, z1, z2, z3, z4, z5]) + 1) + 1) (47 : Int32) hh C12.old R3 (by rw [own_plen (by show _ ≤ 6; omega)]; show _ < _ + 3; omega) (own_sfx (by show _ ≤ 6; omega) 1)) (fun _ => rfl) rfl R3.1 all0 (by decide) (by decide) (by decide) (by decide) (lenOf pd_28492943 rfl) rfl (nb rfl) rfl at_419 (pc' := 422) rfl ?_
    intro vm13 T13 h13 v13 C13 A13 M13 q13
    obtain ⟨rfl, rfl⟩ := q13
    refine C13.bi (z := 47) at_422 rfl (C13.cN at_424 (XT.ii_ne_f (by decide)) (C13.aLk at_427 rfl rfl (C13.iLk at_429 rfl (C13.ic (z := 3) at_431 rfl (C13.ad (z := ((Int32.ofNat (own_ix 58 [z0, z1, z2, z3, z4, z5])) + (3 : Int32))) at_432 rfl ?_)))))
    rw [show ((Int32.ofNat (own_ix 58 [z0, z1, z2, z3, z4, z5])) + (3 : Int32)) = (Int32.ofNat (((own_ix 58 [z0, z1, z2, z3, z4, z5]) + 1) + 2)) from own_add _ 3]
    refine C13.virtual (W := 0) (W377 hw) (W92 hw) (fun _ q => notFace_of_selects (args := #[]) (mvT q (W94 hw))) (W94 hw) (W93 hw) (W95 hw) (W10 hw) (by decide) (rm_chr l Z a0 EL G w3 t3 k3 (own_sl [z0, z1, z2, z3, z4, z5] 0 ((own_ix 58 [z0, z1, z2, z3, z4, z5]) + 1) ++ [(47 : Int32), (47 : Int32), (120 : Int32)]) (((own_ix 58 [z0, z1, z2, z3, z4, z5]) + 1) + 2) (120 : Int32) hh C13.old R3 (by rw [own_plen (by show _ ≤ 6; omega)]; show _ < _ + 3; omega) (own_sfx (by show _ ≤ 6; omega) 2)) (fun _ => rfl) rfl R3.1 all0 (by decide) (by decide) (by decide) (by decide) (lenOf pd_28492943 rfl) rfl (nb rfl) rfl at_433 (pc' := 436) rfl ?_
    intro vm14 T14 h14 v14 C14 A14 M14 q14
    obtain ⟨rfl, rfl⟩ := q14
    refine C14.bi (z := 120) at_436 rfl (C14.cN at_438 (XT.ii_ne_f (by decide)) (C14.ic (z := 1) at_441 rfl (C14.go (pc' := 446) at_442 (by decide) rfl (C14.iSk at_446 (l' := #[.val (.int i0), .val (.int i1), .val (.int i2), .val (.ref x), .val (.int (Int32.ofNat (own_ix 35 [z0, z1, z2, z3, z4, z5]))), .val (.int (Int32.ofNat (own_ix 63 [z0, z1, z2, z3, z4, z5]))), .val (.int (Int32.ofNat (own_qm [z0, z1, z2, z3, z4, z5]))), .val (.int (Int32.ofNat (own_ix 58 [z0, z1, z2, z3, z4, z5]))), .val (.int (Int32.ofNat (own_ix 47 [z0, z1, z2, z3, z4, z5]))), l9, l10, .val (.ref w0), .val (.ref w1), .val (.ref w2), .val (.ref w3), l15, .val (.int (Int32.ofNat (own_ps [z0, z1, z2, z3, z4, z5]))), .val (.int 1), .val (.int 1), .val (.int 1), .val (.int 1)]) rfl (C14.iLk at_448 rfl (C14.fN at_450 (XT.i0_eq_f (by decide)) (C14.iLk at_453 rfl (C14.fN at_455 (XT.i0_eq_f (by decide)) (C14.iLk at_458 rfl ?_)))))))))
    refine C14.fN at_460 (XT.i0_eq_f (by decide)) (C14.iLk at_463 rfl (C14.fN at_465 (XT.i0_eq_f (by decide)) (C14.ic (z := 1) at_468 rfl (C14.go (pc' := 473) at_469 (by decide) rfl ?_))))
    exact C14.retI (t := .boolean) rfl (by simp) rfl at_473 (by decide) (by decide) rfl
  have J90 : ∀ (x : Addr) (kx : ClassId) (z0 : Int32) (z1 : Int32) (z2 : Int32) (z3 : Int32) (z4 : Int32) (z5 : Int32) (qm : Nat) (vm : Vm) (T : State) (hh : Heap), (qm = own_qm [z0, z1, z2, z3, z4, z5]) → (Arv Z hh x kx .char (6 : Int32) [(.int z0), (.int z1), (.int z2), (.int z3), (.int z4), (.int z5)] (.int 0)) → (B8 z0) → (B8 z1) → (B8 z2) → (B8 z3) → (B8 z4) → (B8 z5) → (Keep h hh []) → (CHr Z EL s.vm h vm hh) → Core p l e room_1 s m #[(.int i0), (.int i1), (.int i2)] below meth c code 21 (some .boolean) "law" "com/example/quadrille/quadrille/rdf/BaseIriOfPinLaw" Z a0 EL false vm T hh 1 6 → Endw p e below T (mkF m 90 #[.val (.int i0), .val (.int i1), .val (.int i2), .val (.ref x), .val (.int (Int32.ofNat (own_ix 35 [z0, z1, z2, z3, z4, z5]))), .val (.int (Int32.ofNat (own_ix 63 [z0, z1, z2, z3, z4, z5]))), .val (.int (Int32.ofNat qm)), .unset, .unset, .unset, .unset, .unset, .unset, .unset, .unset, .unset, .unset, .unset, .unset, .unset, .unset] []) (Fin s Z EL false (fun r h' => r = some (.int 1)) (room_1).cells (room_1).slots) := by
    intro x kx z0 z1 z2 z3 z4 z5 qm vm T hh hqm V b0 b1 b2 b3 b4 b5 K A C
    subst hqm
    show Endw p e below T (mkF m 90 #[.val (.int i0), .val (.int i1), .val (.int i2), .val (.ref x), .val (.int (Int32.ofNat (own_ix 35 [z0, z1, z2, z3, z4, z5]))), .val (.int (Int32.ofNat (own_ix 63 [z0, z1, z2, z3, z4, z5]))), .val (.int (Int32.ofNat (own_qm [z0, z1, z2, z3, z4, z5]))), .unset, .unset, .unset, .unset, .unset, .unset, .unset, .unset, .unset, .unset, .unset, .unset, .unset, .unset] []) _
    have b35 : (own_ix 35 [z0, z1, z2, z3, z4, z5]) ≤ 6 := own_ix_le 35 _
    have bqf : (own_qm [z0, z1, z2, z3, z4, z5]) ≤ (own_ix 35 [z0, z1, z2, z3, z4, z5]) := own_qm_fm _
    have bps : (own_ps [z0, z1, z2, z3, z4, z5]) ≤ (own_qm [z0, z1, z2, z3, z4, z5]) := own_ps_le _
    have b58 : (own_ix 58 [z0, z1, z2, z3, z4, z5]) ≤ 6 := own_ix_le 58 _
    have b47 : (own_ix 47 [z0, z1, z2, z3, z4, z5]) ≤ 6 := own_ix_le 47 _
    refine C.aL at_90 rfl rfl (C.bi (z := 58) at_91 rfl (C.ic (z := 0) at_93 rfl ?_))
    refine C.static (W := 0) (wd hw 5 rfl) (wd hw 6 rfl) (wd hw 7 rfl) (W3 hw) (by decide) (rm_idx0 l Z a0 EL G x kx z0 z1 z2 z3 z4 z5 (58 : Int32) hh C.old V) (fun _ => rfl) rfl all0 (by decide) (by decide) (by decide) (by decide) (lenOf pd_285b4343492949 rfl) rfl (nb rfl) rfl at_94 (pc' := 97) rfl ?_
    intro vm15 T15 h15 v15 C15 A15 M15 q15
    obtain ⟨rfl, rfl⟩ := q15
    refine C15.iSk at_97 (l' := #[.val (.int i0), .val (.int i1), .val (.int i2), .val (.ref x), .val (.int (Int32.ofNat (own_ix 35 [z0, z1, z2, z3, z4, z5]))), .val (.int (Int32.ofNat (own_ix 63 [z0, z1, z2, z3, z4, z5]))), .val (.int (Int32.ofNat (own_qm [z0, z1, z2, z3, z4, z5]))), .val (.int (Int32.ofNat (own_ix 58 [z0, z1, z2, z3, z4, z5]))), .unset, .unset, .unset, .unset, .unset, .unset, .unset, .unset, .unset, .unset, .unset, .unset, .unset]) rfl (C15.aL at_99 rfl rfl (C15.bi (z := 47) at_100 rfl (C15.ic (z := 0) at_102 rfl ?_)))
    refine C15.static (W := 0) (wd hw 5 rfl) (wd hw 6 rfl) (wd hw 7 rfl) (W3 hw) (by decide) (rm_idx0 l Z a0 EL G x kx z0 z1 z2 z3 z4 z5 (47 : Int32) hh C15.old V) (fun _ => rfl) rfl all0 (by decide) (by decide) (by decide) (by decide) (lenOf pd_285b4343492949 rfl) rfl (nb rfl) rfl at_103 (pc' := 106) rfl ?_
    intro vm16 T16 h16 v16 C16 A16 M16 q16
    obtain ⟨rfl, rfl⟩ := q16
    refine C16.iSk at_106 (l' := #[.val (.int i0), .val (.int i1), .val (.int i2), .val (.ref x), .val (.int (Int32.ofNat (own_ix 35 [z0, z1, z2, z3, z4, z5]))), .val (.int (Int32.ofNat (own_ix 63 [z0, z1, z2, z3, z4, z5]))), .val (.int (Int32.ofNat (own_qm [z0, z1, z2, z3, z4, z5]))), .val (.int (Int32.ofNat (own_ix 58 [z0, z1, z2, z3, z4, z5]))), .val (.int (Int32.ofNat (own_ix 47 [z0, z1, z2, z3, z4, z5]))), .unset, .unset, .unset, .unset, .unset, .unset, .unset, .unset, .unset, .unset, .unset, .unset]) rfl (C16.iLk at_108 rfl ?_)
    by_cases c17 : (0 : Int32) < (Int32.ofNat (own_ix 58 [z0, z1, z2, z3, z4, z5]))
    · refine C16.fN at_110 (XT.i0_le_f c17) (C16.iLk at_113 rfl (C16.iLk at_115 rfl ?_))
      by_cases c18 : (Int32.ofNat (own_ix 58 [z0, z1, z2, z3, z4, z5])) < (Int32.ofNat (own_ix 47 [z0, z1, z2, z3, z4, z5]))
      · refine C16.cN at_117 (XT.ii_ge_f c18) (C16.iLk at_120 rfl (C16.iLk at_122 rfl ?_))
        by_cases c19 : (Int32.ofNat (own_ix 58 [z0, z1, z2, z3, z4, z5])) < (Int32.ofNat (own_qm [z0, z1, z2, z3, z4, z5]))
        · refine C16.cY (pc' := 129) at_124 (XT.ii_lt_t c19) (by decide) rfl ?_
          have p0 : 0 < (own_ix 58 [z0, z1, z2, z3, z4, z5]) := (own_lt (a := 0) (by omega) (by omega)).mp c17
          have p1 : (own_ix 58 [z0, z1, z2, z3, z4, z5]) < (own_ix 47 [z0, z1, z2, z3, z4, z5]) := (own_lt (by omega) (by omega)).mp c18
          have p2 : (own_ix 58 [z0, z1, z2, z3, z4, z5]) < (own_qm [z0, z1, z2, z3, z4, z5]) := (own_lt (by omega) (by omega)).mp c19
          obtain ⟨hse, hB, hhs⟩ := own_iri p0 p1 p2
          refine C16.new (wd hw 8 rfl) (W9 hw) (W10 hw) at_129 (pc' := 132) rfl (by decide) (by decide) ?_
          intro T20 h20 a20 C20 K20 A20 ge20 zg20 E20 D20 S20
          refine C20.du at_132 rfl (C20.aL at_133 rfl rfl ?_)
          have f21 := (V.keep K20 nin0)
          have f22 : Fld Z h20 a20 "java/lang/String" "value" "[B" .null := D20 (Or.inr (W36 hw)) (ty := (.array .byte)) (by decide)
          have f23 : Fld Z h20 a20 "java/lang/String" "coder" "B" (.int 0) := D20 (Or.inr (W34 hw)) (ty := .byte) (by decide)
          have hp24 : ∀ c ∈ [z0, z1, z2, z3, z4, z5], B8 c := (own_cS b0 (own_cS b1 (own_cS b2 (own_cS b3 (own_cS b4 (own_cS b5 own_c0))))))
          refine C20.specialF (y := ⟨"java/lang/String", "<init>", "([C)V"⟩) (ws := [a20]) (W := 1) (a := a20) (argsL := [.ref x]) (rest := [(.ref a20)]) (ck := 1) (cn := 6) rfl (wd hw 11 rfl) (wd hw 12 rfl) (wd hw 13 rfl) (by decide) (StrChars.Road.backV (W := 1) (n := 6) (n0 := Z.heap.size) (cs := [z0, z1, z2, z3, z4, z5]) (bs := [z0.toInt8.toInt32, z1.toInt8.toInt32, z2.toInt8.toInt32, z3.toInt8.toInt32, z4.toInt8.toInt32, z5.toInt8.toInt32]) C20.warm G.w_backV (kI := 4) (W9 hw) zg20 C20.le E20 f22 f23 f21 (Sc.ext C20.old) hzc rfl rfl (by decide) (by decide) hp24 rfl (by decide) (by decide)) (fun _ _ _ q => ⟨q.2.1, q.2.2.1⟩) (allS zg20 all0) (sfS S20 sf0) rfl (by decide) (by decide) (lenOf pd_285b432956 rfl) rfl (nb rfl) rfl at_134 (pc' := 137) rfl ?_
          intro T24 h24 v24 C24 K24 A24 q24
          obtain ⟨_, rfl, -, -, E24, F24, t24, kb24, zg24, ge24, nt24, f24, V24⟩ := q24
          have Z24 : Str Z h24 a20 t24 kb24 [z0, z1, z2, z3, z4, z5] := ⟨E24, F24, f24, V24, hp24, Nat.le_of_ble_eq_true rfl⟩
          refine C24.aSk at_137 rfl (l' := #[.val (.int i0), .val (.int i1), .val (.int i2), .val (.ref x), .val (.int (Int32.ofNat (own_ix 35 [z0, z1, z2, z3, z4, z5]))), .val (.int (Int32.ofNat (own_ix 63 [z0, z1, z2, z3, z4, z5]))), .val (.int (Int32.ofNat (own_qm [z0, z1, z2, z3, z4, z5]))), .val (.int (Int32.ofNat (own_ix 58 [z0, z1, z2, z3, z4, z5]))), .val (.int (Int32.ofNat (own_ix 47 [z0, z1, z2, z3, z4, z5]))), .val (.ref a20), .unset, .unset, .unset, .unset, .unset, .unset, .unset, .unset, .unset, .unset, .unset]) rfl (C24.aLk at_139 rfl rfl ?_)
          refine C24.static (W := 0) (wd hw 37 rfl) (wd hw 38 rfl) (wd hw 40 rfl) (W39 hw) (by decide) (rm_bof l Z a0 EL G a20 t24 kb24 [z0, z1, z2, z3, z4, z5] h24 C24.old Z24 (nb rfl) hB) (fun z => nomatch z) rfl all0 (by decide) (by decide) (by decide) (by decide) (lenOf pd_29 rfl) rfl (nb rfl) rfl at_141 (pc' := 144) rfl ?_
          intro vm25 T25 h25 v25 C25 A25 M25 q25
          obtain ⟨x25, b25, rfl, K25, ge25, E25, F25, M25_⟩ := q25
          refine C25.aSk at_144 rfl (l' := #[.val (.int i0), .val (.int i1), .val (.int i2), .val (.ref x), .val (.int (Int32.ofNat (own_ix 35 [z0, z1, z2, z3, z4, z5]))), .val (.int (Int32.ofNat (own_ix 63 [z0, z1, z2, z3, z4, z5]))), .val (.int (Int32.ofNat (own_qm [z0, z1, z2, z3, z4, z5]))), .val (.int (Int32.ofNat (own_ix 58 [z0, z1, z2, z3, z4, z5]))), .val (.int (Int32.ofNat (own_ix 47 [z0, z1, z2, z3, z4, z5]))), .val (.ref a20), .val (.ref x25), .unset, .unset, .unset, .unset, .unset, .unset, .unset, .unset, .unset, .unset]) rfl (C25.aLk at_146 rfl rfl ?_)
          refine C25.ldcC (N := 0) (vs := (bys [])) (z := (0 : Int32)) (W173 hw) G.wS (by rw [G.el]; decide) ⟨by decide, by decide⟩ (by decide) (by decide) (by decide) (by decide) (by decide) (by decide) at_148 (pc' := 150) rfl rfl ?_
          intro vm26 T26 h26 a26 b26 kA26 C26 K26 A26 E26 F26 f26 V26 r26
          have Z26 : Str Z h26 a26 b26 kA26 [] := ⟨E26, F26, f26, V26, own_c0, by decide⟩
          have f28 := (F25.keep K26 nin0)
          have f29 := (M25_.keep (kT (kR h25 []) K26 all0))
          have f30 := (E25.keep K26)
          refine C26.virtual (W := 0) (wd hw 174 rfl) (wd hw 175 rfl) (fun _ q => notFace_of_selects (args := #[]) (mvT q (W177 hw))) (W177 hw) (W176 hw) (wd hw 178 rfl) (W39 hw) (by decide) (rm_res0 l Z a0 EL G x25 b25 (own_sl [z0, z1, z2, z3, z4, z5] 0 (own_se [z0, z1, z2, z3, z4, z5])) (own_aut [z0, z1, z2, z3, z4, z5]) (own_pth [z0, z1, z2, z3, z4, z5]) (own_qry [z0, z1, z2, z3, z4, z5]) (own_frg [z0, z1, z2, z3, z4, z5]) a26 b26 kA26 h26 C26.old f30 f28 f29 Z26 (by rw [own_r0 hB, own_sl_len (own_ix_le 35 _)]; omega) (fun e => own_noSl (fun q => by rw [own_aut, if_pos q] at e; cases e))) (fun z => nomatch z) rfl f30 all0 (by decide) (by decide) (by decide) (by decide) (lenOf pd_31 rfl) rfl (nb rfl) rfl at_150 (pc' := 153) rfl ?_
          intro vm31 T31 h31 v31 C31 A31 M31 q31
          obtain ⟨z31, t31, k31_, rfl, K31, ge31, Z31⟩ := q31
          rw [own_r0 hB, own_nil_app] at Z31
          refine C31.aSk at_153 rfl (l' := #[.val (.int i0), .val (.int i1), .val (.int i2), .val (.ref x), .val (.int (Int32.ofNat (own_ix 35 [z0, z1, z2, z3, z4, z5]))), .val (.int (Int32.ofNat (own_ix 63 [z0, z1, z2, z3, z4, z5]))), .val (.int (Int32.ofNat (own_qm [z0, z1, z2, z3, z4, z5]))), .val (.int (Int32.ofNat (own_ix 58 [z0, z1, z2, z3, z4, z5]))), .val (.int (Int32.ofNat (own_ix 47 [z0, z1, z2, z3, z4, z5]))), .val (.ref a20), .val (.ref x25), .val (.ref z31), .unset, .unset, .unset, .unset, .unset, .unset, .unset, .unset, .unset]) rfl (C31.aLk at_155 rfl rfl ?_)
          refine C31.ldcC (N := 4) (vs := (bys [(63 : Int32)])) (z := (1 : Int32)) (W303 hw) G.wS (by rw [G.el]; decide) ⟨by decide, by decide⟩ (by decide) (by decide) (by decide) (by decide) (by decide) (by decide) at_157 (pc' := 159) rfl rfl ?_
          intro vm32 T32 h32 a32 b32 kA32 C32 K32 A32 E32 F32 f32 V32 r32
          have Z32 : Str Z h32 a32 b32 kA32 [(63 : Int32)] := ⟨E32, F32, f32, V32, (own_cS ⟨by decide, by decide⟩ own_c0), by decide⟩
          have KK34 := (kT (kT (kR h26 []) K31 all0) K32 all0)
          have f35 := (f28.keep KK34 nin0)
          have f36 := (f29.keep (kT (kT (kR h26 []) K31 all0) K32 all0))
          have f37 := (f30.keep KK34)
          refine C32.virtual (W := 0) (wd hw 174 rfl) (wd hw 175 rfl) (fun _ q => notFace_of_selects (args := #[]) (mvT q (W177 hw))) (W177 hw) (W176 hw) (wd hw 178 rfl) (W39 hw) (by decide) (rm_res1 l Z a0 EL G x25 b25 (own_sl [z0, z1, z2, z3, z4, z5] 0 (own_se [z0, z1, z2, z3, z4, z5])) (own_aut [z0, z1, z2, z3, z4, z5]) (own_pth [z0, z1, z2, z3, z4, z5]) (own_qry [z0, z1, z2, z3, z4, z5]) (own_frg [z0, z1, z2, z3, z4, z5]) a32 b32 kA32 h32 C32.old f37 f35 f36 Z32 (by rw [own_r1 hB, own_plen (by show _ ≤ 6; omega)]; show _ + 1 < 16; omega) (fun e => own_noSl (fun q => by rw [own_aut, if_pos q] at e; cases e))) (fun z => nomatch z) rfl f37 all0 (by decide) (by decide) (by decide) (by decide) (lenOf pd_31 rfl) rfl (nb rfl) rfl at_159 (pc' := 162) rfl ?_
          intro vm38 T38 h38 v38 C38 A38 M38 q38
          obtain ⟨z38, t38, k38_, rfl, K38, ge38, Z38⟩ := q38
          rw [own_r1 hB] at Z38
          refine C38.aSk at_162 rfl (l' := #[.val (.int i0), .val (.int i1), .val (.int i2), .val (.ref x), .val (.int (Int32.ofNat (own_ix 35 [z0, z1, z2, z3, z4, z5]))), .val (.int (Int32.ofNat (own_ix 63 [z0, z1, z2, z3, z4, z5]))), .val (.int (Int32.ofNat (own_qm [z0, z1, z2, z3, z4, z5]))), .val (.int (Int32.ofNat (own_ix 58 [z0, z1, z2, z3, z4, z5]))), .val (.int (Int32.ofNat (own_ix 47 [z0, z1, z2, z3, z4, z5]))), .val (.ref a20), .val (.ref x25), .val (.ref z31), .val (.ref z38), .unset, .unset, .unset, .unset, .unset, .unset, .unset, .unset]) rfl (C38.aLk at_164 rfl rfl ?_)
          refine C38.ldcC (N := 8) (vs := (bys [(47 : Int32), (121 : Int32)])) (z := (2 : Int32)) (W305 hw) G.wS (by rw [G.el]; decide) ⟨by decide, by decide⟩ (by decide) (by decide) (by decide) (by decide) (by decide) (by decide) at_166 (pc' := 168) rfl rfl ?_
          intro vm39 T39 h39 a39 b39 kA39 C39 K39 A39 E39 F39 f39 V39 r39
          have Z39 : Str Z h39 a39 b39 kA39 [(47 : Int32), (121 : Int32)] := ⟨E39, F39, f39, V39, (own_cS ⟨by decide, by decide⟩ (own_cS ⟨by decide, by decide⟩ own_c0)), by decide⟩
          have KK41 := (kT (kT (kR h32 []) K38 all0) K39 all0)
          have f42 := (f35.keep KK41 nin0)
          have f43 := (f36.keep (kT (kT (kR h32 []) K38 all0) K39 all0))
          have f44 := (f37.keep KK41)
          refine C39.virtual (W := 0) (wd hw 174 rfl) (wd hw 175 rfl) (fun _ q => notFace_of_selects (args := #[]) (mvT q (W177 hw))) (W177 hw) (W176 hw) (wd hw 178 rfl) (W39 hw) (by decide) (rm_res2 l Z a0 EL G x25 b25 (own_sl [z0, z1, z2, z3, z4, z5] 0 (own_se [z0, z1, z2, z3, z4, z5])) (own_aut [z0, z1, z2, z3, z4, z5]) (own_pth [z0, z1, z2, z3, z4, z5]) (own_qry [z0, z1, z2, z3, z4, z5]) (own_frg [z0, z1, z2, z3, z4, z5]) a39 b39 kA39 h39 C39.old f44 f42 f43 Z39 (by rw [own_r2 hB, own_plen (by show _ ≤ 6; omega)]; show _ + 2 < 16; omega) ) (fun z => nomatch z) rfl f44 all0 (by decide) (by decide) (by decide) (by decide) (lenOf pd_31 rfl) rfl (nb rfl) rfl at_168 (pc' := 171) rfl ?_
          intro vm45 T45 h45 v45 C45 A45 M45 q45
          obtain ⟨z45, t45, k45_, rfl, K45, ge45, Z45⟩ := q45
          rw [own_r2 hB] at Z45
          refine C45.aSk at_171 rfl (l' := #[.val (.int i0), .val (.int i1), .val (.int i2), .val (.ref x), .val (.int (Int32.ofNat (own_ix 35 [z0, z1, z2, z3, z4, z5]))), .val (.int (Int32.ofNat (own_ix 63 [z0, z1, z2, z3, z4, z5]))), .val (.int (Int32.ofNat (own_qm [z0, z1, z2, z3, z4, z5]))), .val (.int (Int32.ofNat (own_ix 58 [z0, z1, z2, z3, z4, z5]))), .val (.int (Int32.ofNat (own_ix 47 [z0, z1, z2, z3, z4, z5]))), .val (.ref a20), .val (.ref x25), .val (.ref z31), .val (.ref z38), .val (.ref z45), .unset, .unset, .unset, .unset, .unset, .unset, .unset]) rfl (C45.aLk at_173 rfl rfl ?_)
          refine C45.ldcC (N := 12) (vs := (bys [(47 : Int32), (47 : Int32), (120 : Int32)])) (z := (3 : Int32)) (W371 hw) G.wS (by rw [G.el]; decide) ⟨by decide, by decide⟩ (by decide) (by decide) (by decide) (by decide) (by decide) (by decide) at_175 (pc' := 177) rfl rfl ?_
          intro vm46 T46 h46 a46 b46 kA46 C46 K46 A46 E46 F46 f46 V46 r46
          have Z46 : Str Z h46 a46 b46 kA46 [(47 : Int32), (47 : Int32), (120 : Int32)] := ⟨E46, F46, f46, V46, (own_cS ⟨by decide, by decide⟩ (own_cS ⟨by decide, by decide⟩ (own_cS ⟨by decide, by decide⟩ own_c0))), by decide⟩
          have KK48 := (kT (kT (kR h39 []) K45 all0) K46 all0)
          have f49 := (f42.keep KK48 nin0)
          have f50 := (f43.keep (kT (kT (kR h39 []) K45 all0) K46 all0))
          have f51 := (f44.keep KK48)
          refine C46.virtual (W := 0) (wd hw 174 rfl) (wd hw 175 rfl) (fun _ q => notFace_of_selects (args := #[]) (mvT q (W177 hw))) (W177 hw) (W176 hw) (wd hw 178 rfl) (W39 hw) (by decide) (rm_res3 l Z a0 EL G x25 b25 (own_sl [z0, z1, z2, z3, z4, z5] 0 (own_se [z0, z1, z2, z3, z4, z5])) (own_aut [z0, z1, z2, z3, z4, z5]) (own_pth [z0, z1, z2, z3, z4, z5]) (own_qry [z0, z1, z2, z3, z4, z5]) (own_frg [z0, z1, z2, z3, z4, z5]) a46 b46 kA46 h46 C46.old f51 f49 f50 Z46 (by rw [own_r3 hB, hse, own_plen (by show _ ≤ 6; omega)]; show _ + 3 < 16; omega) ) (fun z => nomatch z) rfl f51 all0 (by decide) (by decide) (by decide) (by decide) (lenOf pd_31 rfl) rfl (nb rfl) rfl at_177 (pc' := 180) rfl ?_
          intro vm52 T52 h52 v52 C52 A52 M52 q52
          obtain ⟨z52, t52, k52_, rfl, K52, ge52, Z52⟩ := q52
          rw [own_r3 hB, hse] at Z52
          refine C52.aSk at_180 rfl (l' := #[.val (.int i0), .val (.int i1), .val (.int i2), .val (.ref x), .val (.int (Int32.ofNat (own_ix 35 [z0, z1, z2, z3, z4, z5]))), .val (.int (Int32.ofNat (own_ix 63 [z0, z1, z2, z3, z4, z5]))), .val (.int (Int32.ofNat (own_qm [z0, z1, z2, z3, z4, z5]))), .val (.int (Int32.ofNat (own_ix 58 [z0, z1, z2, z3, z4, z5]))), .val (.int (Int32.ofNat (own_ix 47 [z0, z1, z2, z3, z4, z5]))), .val (.ref a20), .val (.ref x25), .val (.ref z31), .val (.ref z38), .val (.ref z45), .val (.ref z52), .unset, .unset, .unset, .unset, .unset, .unset]) rfl ?_
          by_cases c53 : own_auB [z0, z1, z2, z3, z4, z5]
          · have ca := c53
            have au := own_auQ ca
            rw [hhs] at au
            refine C52.iLk at_182 rfl (C52.ic (z := 2) at_184 rfl (C52.ad (z := ((Int32.ofNat (own_ix 58 [z0, z1, z2, z3, z4, z5])) + (2 : Int32))) at_185 rfl ?_))
            rw [show ((Int32.ofNat (own_ix 58 [z0, z1, z2, z3, z4, z5])) + (2 : Int32)) = (Int32.ofNat ((own_ix 58 [z0, z1, z2, z3, z4, z5]) + 2)) from own_add _ 2]
            refine C52.ic (z := 5) at_186 rfl (C52.cN at_187 (XT.ii_gt_f (fun q => absurd ((own_lt (a := 5) (by omega) (by omega)).mp q) (by omega))) (C52.aL at_190 rfl rfl (C52.iLk at_191 rfl (C52.ic (z := 1) at_193 rfl (C52.ad (z := ((Int32.ofNat (own_ix 58 [z0, z1, z2, z3, z4, z5])) + (1 : Int32))) at_194 rfl ?_)))))
            rw [show ((Int32.ofNat (own_ix 58 [z0, z1, z2, z3, z4, z5])) + (1 : Int32)) = (Int32.ofNat ((own_ix 58 [z0, z1, z2, z3, z4, z5]) + 1)) from own_add _ 1]
            have KK54 := (kT (kT (kT (kT (kT (kT (kT (kT (kT (kT (kR h20 [a20]) K24 (allS m0 all0)) K25 all0) K26 all0) K31 all0) K32 all0) K38 all0) K39 all0) K45 all0) K46 all0) K52 all0)
            have ne55 : x ≠ a20 := (nL (lL V.lt ge20))
            have f56 := (f21.keep KK54 (ninS ne55 nin0))
            refine C52.caloadN (j := ((own_ix 58 [z0, z1, z2, z3, z4, z5]) + 1)) (show Arv Z h52 x kx .char (Int32.ofNat 6) (own_vals [z0, z1, z2, z3, z4, z5]) (.int 0) from f56) (by first | omega | (have := mt (own_lt (a := 5) (by omega) (by omega)).mpr c5; omega)) (by decide) (v := (.int (List.getD [z0, z1, z2, z3, z4, z5] ((own_ix 58 [z0, z1, z2, z3, z4, z5]) + 1) 0))) (own_mapD [z0, z1, z2, z3, z4, z5] _) at_195 (pc' := 196) rfl ?_
            refine C52.bi (z := 47) at_196 rfl (C52.cN at_198 (XT.ii_ne_f au.2.1) (C52.aL at_201 rfl rfl (C52.iLk at_202 rfl (C52.ic (z := 2) at_204 rfl (C52.ad (z := ((Int32.ofNat (own_ix 58 [z0, z1, z2, z3, z4, z5])) + (2 : Int32))) at_205 rfl ?_)))))
            rw [show ((Int32.ofNat (own_ix 58 [z0, z1, z2, z3, z4, z5])) + (2 : Int32)) = (Int32.ofNat ((own_ix 58 [z0, z1, z2, z3, z4, z5]) + 2)) from own_add _ 2]
            refine C52.caloadN (j := ((own_ix 58 [z0, z1, z2, z3, z4, z5]) + 2)) (show Arv Z h52 x kx .char (Int32.ofNat 6) (own_vals [z0, z1, z2, z3, z4, z5]) (.int 0) from f56) (by first | omega | (have := mt (own_lt (a := 5) (by omega) (by omega)).mpr c5; omega)) (by decide) (v := (.int (List.getD [z0, z1, z2, z3, z4, z5] ((own_ix 58 [z0, z1, z2, z3, z4, z5]) + 2) 0))) (own_mapD [z0, z1, z2, z3, z4, z5] _) at_206 (pc' := 207) rfl ?_
            refine C52.bi (z := 47) at_207 rfl (C52.cN at_209 (XT.ii_ne_f au.2.2) (C52.ic (z := 1) at_212 rfl (C52.go (pc' := 217) at_213 (by decide) rfl (C52.iSk at_217 (l' := #[.val (.int i0), .val (.int i1), .val (.int i2), .val (.ref x), .val (.int (Int32.ofNat (own_ix 35 [z0, z1, z2, z3, z4, z5]))), .val (.int (Int32.ofNat (own_ix 63 [z0, z1, z2, z3, z4, z5]))), .val (.int (Int32.ofNat (own_qm [z0, z1, z2, z3, z4, z5]))), .val (.int (Int32.ofNat (own_ix 58 [z0, z1, z2, z3, z4, z5]))), .val (.int (Int32.ofNat (own_ix 47 [z0, z1, z2, z3, z4, z5]))), .val (.ref a20), .val (.ref x25), .val (.ref z31), .val (.ref z38), .val (.ref z45), .val (.ref z52), .val (.int 1), .unset, .unset, .unset, .unset, .unset]) rfl (C52.iLk at_219 rfl (C52.fN at_221 (XT.i0_eq_f (by decide)) (C52.aL at_224 rfl rfl (C52.bi (z := 47) at_225 rfl (C52.iLk at_227 rfl ?_)))))))))
            refine C52.ic (z := 3) at_229 rfl (C52.ad (z := ((Int32.ofNat (own_ix 58 [z0, z1, z2, z3, z4, z5])) + (3 : Int32))) at_230 rfl ?_)
            rw [show ((Int32.ofNat (own_ix 58 [z0, z1, z2, z3, z4, z5])) + (3 : Int32)) = (Int32.ofNat ((own_ix 58 [z0, z1, z2, z3, z4, z5]) + 3)) from own_add _ 3]
            refine C52.static (W := 0) (wd hw 5 rfl) (wd hw 6 rfl) (wd hw 7 rfl) (W3 hw) (by decide) (rm_idxF l Z a0 EL G x kx z0 z1 z2 z3 z4 z5 (47 : Int32) ((own_ix 58 [z0, z1, z2, z3, z4, z5]) + 3) h52 C52.old f56 (by omega)) (fun _ => rfl) rfl all0 (by decide) (by decide) (by decide) (by decide) (lenOf pd_285b4343492949 rfl) rfl (nb rfl) rfl at_231 (pc' := 234) rfl ?_
            intro vm57 T57 h57 v57 C57 A57 M57 q57
            obtain ⟨rfl, rfl⟩ := q57
            refine C57.iLk at_234 rfl ?_
            refine C57.static (W := 0) (wd hw 384 rfl) (wd hw 82 rfl) (wd hw 83 rfl) (wd hw 79 rfl) (by decide) (rm_min l Z a0 EL G (Int32.ofNat (((own_ix 58 [z0, z1, z2, z3, z4, z5]) + 3) + own_ix 47 (List.drop ((own_ix 58 [z0, z1, z2, z3, z4, z5]) + 3) [z0, z1, z2, z3, z4, z5]))) (Int32.ofNat (own_qm [z0, z1, z2, z3, z4, z5])) h52 C57.old) (fun _ => rfl) rfl all0 (by decide) (by decide) (by decide) (by decide) (lenOf pd_2849492949 rfl) rfl (nb rfl) rfl at_236 (pc' := 239) rfl ?_
            intro vm58 T58 h58 v58 C58 A58 M58 q58
            rw [(show (if Int32.ofNat (own_qm [z0, z1, z2, z3, z4, z5]) < Int32.ofNat (((own_ix 58 [z0, z1, z2, z3, z4, z5]) + 3) + own_ix 47 (List.drop ((own_ix 58 [z0, z1, z2, z3, z4, z5]) + 3) [z0, z1, z2, z3, z4, z5])) then Int32.ofNat (own_qm [z0, z1, z2, z3, z4, z5]) else Int32.ofNat (((own_ix 58 [z0, z1, z2, z3, z4, z5]) + 3) + own_ix 47 (List.drop ((own_ix 58 [z0, z1, z2, z3, z4, z5]) + 3) [z0, z1, z2, z3, z4, z5]))) = Int32.ofNat (own_ps [z0, z1, z2, z3, z4, z5]) from (own_minN (by have := own_ix_le 47 (List.drop ((own_ix 58 [z0, z1, z2, z3, z4, z5]) + 3) [z0, z1, z2, z3, z4, z5]); rw [List.length_drop] at this; have e6 : ([z0, z1, z2, z3, z4, z5] : List Int32).length = 6 := rfl; omega) (by omega)).trans (congrArg Int32.ofNat (by rw [own_ps, if_pos ca, own_sx, hhs])))] at q58
            obtain ⟨rfl, rfl⟩ := q58
            refine C58.go (pc' := 246) at_239 (by decide) rfl (C58.iSk at_246 (l' := #[.val (.int i0), .val (.int i1), .val (.int i2), .val (.ref x), .val (.int (Int32.ofNat (own_ix 35 [z0, z1, z2, z3, z4, z5]))), .val (.int (Int32.ofNat (own_ix 63 [z0, z1, z2, z3, z4, z5]))), .val (.int (Int32.ofNat (own_qm [z0, z1, z2, z3, z4, z5]))), .val (.int (Int32.ofNat (own_ix 58 [z0, z1, z2, z3, z4, z5]))), .val (.int (Int32.ofNat (own_ix 47 [z0, z1, z2, z3, z4, z5]))), .val (.ref a20), .val (.ref x25), .val (.ref z31), .val (.ref z38), .val (.ref z45), .val (.ref z52), .val (.int 1), .val (.int (Int32.ofNat (own_ps [z0, z1, z2, z3, z4, z5]))), .unset, .unset, .unset, .unset]) rfl ?_)
            have KK59 := (kT (kT (kT (kT (kT (kT (kR h31 []) K32 all0) K38 all0) K39 all0) K45 all0) K46 all0) K52 all0)
            have f60 := (Z31.keep KK59 nin0 nin0)
            have KK61 := (kT (kT (kT (kT (kR h38 []) K39 all0) K45 all0) K46 all0) K52 all0)
            have f62 := (Z38.keep KK61 nin0 nin0)
            have KK63 := (kT (kT (kR h45 []) K46 all0) K52 all0)
            have f64 := (Z45.keep KK63 nin0 nin0)
            have KK65 := (kT (kT (kT (kT (kT (kT (kT (kT (kT (kT (kT (kT (kR h []) K all0) K20 all0) K24 (allS (Or.inr (lT K.1 ge20)) all0)) K25 all0) K26 all0) K31 all0) K32 all0) K38 all0) K39 all0) K45 all0) K46 all0) K52 all0)
            exact J248 x kx z0 z1 z2 z3 z4 z5 (.val (.ref a20)) (.val (.ref x25)) (.val (.int 1)) z31 z38 z45 z52 t31 t38 t45 t52 k31_ k38_ k45_ k52_ vm58 T58 h52 p0 p2 f56 f60 f62 f64 Z52 KK65 (CHr.trans (CHr.trans (CHr.trans (CHr.trans (CHr.trans (CHr.trans (CHr.trans (CHr.trans (CHr.trans (CHr.trans (CHr.trans (CHr.trans (CHr.trans (CHr.trans (CHr.trans A A15) A16) A20) A24) A25) A26) A31) A32) A38) A39) A45) A46) A52) A57) A58) (C58.more (k' := 121) (n' := 750) (by decide) (by decide))
          · refine C52.iLk at_182 rfl (C52.ic (z := 2) at_184 rfl (C52.ad (z := ((Int32.ofNat (own_ix 58 [z0, z1, z2, z3, z4, z5])) + (2 : Int32))) at_185 rfl ?_))
            rw [show ((Int32.ofNat (own_ix 58 [z0, z1, z2, z3, z4, z5])) + (2 : Int32)) = (Int32.ofNat ((own_ix 58 [z0, z1, z2, z3, z4, z5]) + 2)) from own_add _ 2]
            refine C52.ic (z := 5) at_186 rfl ?_
            by_cases c66 : (5 : Int32) < (Int32.ofNat ((own_ix 58 [z0, z1, z2, z3, z4, z5]) + 2))
            · refine C52.cY (pc' := 216) at_187 (XT.ii_gt_t c66) (by decide) rfl (C52.ic (z := 0) at_216 rfl (C52.iSk at_217 (l' := #[.val (.int i0), .val (.int i1), .val (.int i2), .val (.ref x), .val (.int (Int32.ofNat (own_ix 35 [z0, z1, z2, z3, z4, z5]))), .val (.int (Int32.ofNat (own_ix 63 [z0, z1, z2, z3, z4, z5]))), .val (.int (Int32.ofNat (own_qm [z0, z1, z2, z3, z4, z5]))), .val (.int (Int32.ofNat (own_ix 58 [z0, z1, z2, z3, z4, z5]))), .val (.int (Int32.ofNat (own_ix 47 [z0, z1, z2, z3, z4, z5]))), .val (.ref a20), .val (.ref x25), .val (.ref z31), .val (.ref z38), .val (.ref z45), .val (.ref z52), .val (.int 0), .unset, .unset, .unset, .unset, .unset]) rfl (C52.iLk at_219 rfl (C52.fY (pc' := 242) at_221 (XT.i0_eq_t (by decide)) (by decide) rfl (C52.iLk at_242 rfl (C52.ic (z := 1) at_244 rfl (C52.ad (z := ((Int32.ofNat (own_ix 58 [z0, z1, z2, z3, z4, z5])) + (1 : Int32))) at_245 rfl ?_)))))))
              rw [show ((Int32.ofNat (own_ix 58 [z0, z1, z2, z3, z4, z5])) + (1 : Int32)) = (Int32.ofNat ((own_ix 58 [z0, z1, z2, z3, z4, z5]) + 1)) from own_add _ 1]
              rw [show (own_ix 58 [z0, z1, z2, z3, z4, z5]) + 1 = (own_ps [z0, z1, z2, z3, z4, z5]) from by rw [own_ps, if_neg c53, hhs]]
              show Endw p e below T52 (mkF m 246 #[.val (.int i0), .val (.int i1), .val (.int i2), .val (.ref x), .val (.int (Int32.ofNat (own_ix 35 [z0, z1, z2, z3, z4, z5]))), .val (.int (Int32.ofNat (own_ix 63 [z0, z1, z2, z3, z4, z5]))), .val (.int (Int32.ofNat (own_qm [z0, z1, z2, z3, z4, z5]))), .val (.int (Int32.ofNat (own_ix 58 [z0, z1, z2, z3, z4, z5]))), .val (.int (Int32.ofNat (own_ix 47 [z0, z1, z2, z3, z4, z5]))), .val (.ref a20), .val (.ref x25), .val (.ref z31), .val (.ref z38), .val (.ref z45), .val (.ref z52), .val (.int 0), .unset, .unset, .unset, .unset, .unset] [(.int (Int32.ofNat (own_ps [z0, z1, z2, z3, z4, z5])))]) _
              refine C52.iSk at_246 (l' := #[.val (.int i0), .val (.int i1), .val (.int i2), .val (.ref x), .val (.int (Int32.ofNat (own_ix 35 [z0, z1, z2, z3, z4, z5]))), .val (.int (Int32.ofNat (own_ix 63 [z0, z1, z2, z3, z4, z5]))), .val (.int (Int32.ofNat (own_qm [z0, z1, z2, z3, z4, z5]))), .val (.int (Int32.ofNat (own_ix 58 [z0, z1, z2, z3, z4, z5]))), .val (.int (Int32.ofNat (own_ix 47 [z0, z1, z2, z3, z4, z5]))), .val (.ref a20), .val (.ref x25), .val (.ref z31), .val (.ref z38), .val (.ref z45), .val (.ref z52), .val (.int 0), .val (.int (Int32.ofNat (own_ps [z0, z1, z2, z3, z4, z5]))), .unset, .unset, .unset, .unset]) rfl ?_
              have KK67 := (kT (kT (kT (kT (kT (kT (kR h31 []) K32 all0) K38 all0) K39 all0) K45 all0) K46 all0) K52 all0)
              have f68 := (Z31.keep KK67 nin0 nin0)
              have KK69 := (kT (kT (kT (kT (kR h38 []) K39 all0) K45 all0) K46 all0) K52 all0)
              have f70 := (Z38.keep KK69 nin0 nin0)
              have KK71 := (kT (kT (kR h45 []) K46 all0) K52 all0)
              have f72 := (Z45.keep KK71 nin0 nin0)
              have KK73 := (kT (kT (kT (kT (kT (kT (kT (kT (kT (kT (kR h20 [a20]) K24 (allS m0 all0)) K25 all0) K26 all0) K31 all0) K32 all0) K38 all0) K39 all0) K45 all0) K46 all0) K52 all0)
              have ne74 : x ≠ a20 := (nL (lL V.lt ge20))
              have f75 := (f21.keep KK73 (ninS ne74 nin0))
              have KK76 := (kT (kT (kT (kT (kT (kT (kT (kT (kT (kT (kT (kT (kR h []) K all0) K20 all0) K24 (allS (Or.inr (lT K.1 ge20)) all0)) K25 all0) K26 all0) K31 all0) K32 all0) K38 all0) K39 all0) K45 all0) K46 all0) K52 all0)
              exact J248 x kx z0 z1 z2 z3 z4 z5 (.val (.ref a20)) (.val (.ref x25)) (.val (.int 0)) z31 z38 z45 z52 t31 t38 t45 t52 k31_ k38_ k45_ k52_ vm52 T52 h52 p0 p2 f75 f68 f70 f72 Z52 KK76 (CHr.trans (CHr.trans (CHr.trans (CHr.trans (CHr.trans (CHr.trans (CHr.trans (CHr.trans (CHr.trans (CHr.trans (CHr.trans (CHr.trans (CHr.trans A A15) A16) A20) A24) A25) A26) A31) A32) A38) A39) A45) A46) A52) (C52.more (k' := 121) (n' := 750) (by decide) (by decide))
            · refine C52.cN at_187 (XT.ii_gt_f c66) ?_
              have c5 := c66
              refine C52.aL at_190 rfl rfl (C52.iLk at_191 rfl (C52.ic (z := 1) at_193 rfl (C52.ad (z := ((Int32.ofNat (own_ix 58 [z0, z1, z2, z3, z4, z5])) + (1 : Int32))) at_194 rfl ?_)))
              rw [show ((Int32.ofNat (own_ix 58 [z0, z1, z2, z3, z4, z5])) + (1 : Int32)) = (Int32.ofNat ((own_ix 58 [z0, z1, z2, z3, z4, z5]) + 1)) from own_add _ 1]
              have KK77 := (kT (kT (kT (kT (kT (kT (kT (kT (kT (kT (kR h20 [a20]) K24 (allS m0 all0)) K25 all0) K26 all0) K31 all0) K32 all0) K38 all0) K39 all0) K45 all0) K46 all0) K52 all0)
              have ne78 : x ≠ a20 := (nL (lL V.lt ge20))
              have f79 := (f21.keep KK77 (ninS ne78 nin0))
              refine C52.caloadN (j := ((own_ix 58 [z0, z1, z2, z3, z4, z5]) + 1)) (show Arv Z h52 x kx .char (Int32.ofNat 6) (own_vals [z0, z1, z2, z3, z4, z5]) (.int 0) from f79) (by first | omega | (have := mt (own_lt (a := 5) (by omega) (by omega)).mpr c5; omega)) (by decide) (v := (.int (List.getD [z0, z1, z2, z3, z4, z5] ((own_ix 58 [z0, z1, z2, z3, z4, z5]) + 1) 0))) (own_mapD [z0, z1, z2, z3, z4, z5] _) at_195 (pc' := 196) rfl ?_
              refine C52.bi (z := 47) at_196 rfl ?_
              by_cases c80 : (List.getD [z0, z1, z2, z3, z4, z5] ((own_ix 58 [z0, z1, z2, z3, z4, z5]) + 1) 0) = (47 : Int32)
              · refine C52.cN at_198 (XT.ii_ne_f c80) (C52.aL at_201 rfl rfl (C52.iLk at_202 rfl (C52.ic (z := 2) at_204 rfl (C52.ad (z := ((Int32.ofNat (own_ix 58 [z0, z1, z2, z3, z4, z5])) + (2 : Int32))) at_205 rfl ?_))))
                rw [show ((Int32.ofNat (own_ix 58 [z0, z1, z2, z3, z4, z5])) + (2 : Int32)) = (Int32.ofNat ((own_ix 58 [z0, z1, z2, z3, z4, z5]) + 2)) from own_add _ 2]
                refine C52.caloadN (j := ((own_ix 58 [z0, z1, z2, z3, z4, z5]) + 2)) (show Arv Z h52 x kx .char (Int32.ofNat 6) (own_vals [z0, z1, z2, z3, z4, z5]) (.int 0) from f79) (by first | omega | (have := mt (own_lt (a := 5) (by omega) (by omega)).mpr c5; omega)) (by decide) (v := (.int (List.getD [z0, z1, z2, z3, z4, z5] ((own_ix 58 [z0, z1, z2, z3, z4, z5]) + 2) 0))) (own_mapD [z0, z1, z2, z3, z4, z5] _) at_206 (pc' := 207) rfl ?_
                refine C52.bi (z := 47) at_207 rfl (C52.cY (pc' := 216) at_209 (XT.ii_ne_t (fun q => c53 (own_auOf (by rw [hhs]; show _ ≤ 6; have := mt (own_lt (a := 5) (by omega) (by omega)).mpr c66; omega) (by rw [hhs]; exact c80) (by rw [hhs]; exact q)))) (by decide) rfl (C52.ic (z := 0) at_216 rfl (C52.iSk at_217 (l' := #[.val (.int i0), .val (.int i1), .val (.int i2), .val (.ref x), .val (.int (Int32.ofNat (own_ix 35 [z0, z1, z2, z3, z4, z5]))), .val (.int (Int32.ofNat (own_ix 63 [z0, z1, z2, z3, z4, z5]))), .val (.int (Int32.ofNat (own_qm [z0, z1, z2, z3, z4, z5]))), .val (.int (Int32.ofNat (own_ix 58 [z0, z1, z2, z3, z4, z5]))), .val (.int (Int32.ofNat (own_ix 47 [z0, z1, z2, z3, z4, z5]))), .val (.ref a20), .val (.ref x25), .val (.ref z31), .val (.ref z38), .val (.ref z45), .val (.ref z52), .val (.int 0), .unset, .unset, .unset, .unset, .unset]) rfl (C52.iLk at_219 rfl (C52.fY (pc' := 242) at_221 (XT.i0_eq_t (by decide)) (by decide) rfl (C52.iLk at_242 rfl (C52.ic (z := 1) at_244 rfl (C52.ad (z := ((Int32.ofNat (own_ix 58 [z0, z1, z2, z3, z4, z5])) + (1 : Int32))) at_245 rfl ?_))))))))
                rw [show ((Int32.ofNat (own_ix 58 [z0, z1, z2, z3, z4, z5])) + (1 : Int32)) = (Int32.ofNat ((own_ix 58 [z0, z1, z2, z3, z4, z5]) + 1)) from own_add _ 1]
                rw [show (own_ix 58 [z0, z1, z2, z3, z4, z5]) + 1 = (own_ps [z0, z1, z2, z3, z4, z5]) from by rw [own_ps, if_neg c53, hhs]]
                show Endw p e below T52 (mkF m 246 #[.val (.int i0), .val (.int i1), .val (.int i2), .val (.ref x), .val (.int (Int32.ofNat (own_ix 35 [z0, z1, z2, z3, z4, z5]))), .val (.int (Int32.ofNat (own_ix 63 [z0, z1, z2, z3, z4, z5]))), .val (.int (Int32.ofNat (own_qm [z0, z1, z2, z3, z4, z5]))), .val (.int (Int32.ofNat (own_ix 58 [z0, z1, z2, z3, z4, z5]))), .val (.int (Int32.ofNat (own_ix 47 [z0, z1, z2, z3, z4, z5]))), .val (.ref a20), .val (.ref x25), .val (.ref z31), .val (.ref z38), .val (.ref z45), .val (.ref z52), .val (.int 0), .unset, .unset, .unset, .unset, .unset] [(.int (Int32.ofNat (own_ps [z0, z1, z2, z3, z4, z5])))]) _
                refine C52.iSk at_246 (l' := #[.val (.int i0), .val (.int i1), .val (.int i2), .val (.ref x), .val (.int (Int32.ofNat (own_ix 35 [z0, z1, z2, z3, z4, z5]))), .val (.int (Int32.ofNat (own_ix 63 [z0, z1, z2, z3, z4, z5]))), .val (.int (Int32.ofNat (own_qm [z0, z1, z2, z3, z4, z5]))), .val (.int (Int32.ofNat (own_ix 58 [z0, z1, z2, z3, z4, z5]))), .val (.int (Int32.ofNat (own_ix 47 [z0, z1, z2, z3, z4, z5]))), .val (.ref a20), .val (.ref x25), .val (.ref z31), .val (.ref z38), .val (.ref z45), .val (.ref z52), .val (.int 0), .val (.int (Int32.ofNat (own_ps [z0, z1, z2, z3, z4, z5]))), .unset, .unset, .unset, .unset]) rfl ?_
                have KK81 := (kT (kT (kT (kT (kT (kT (kR h31 []) K32 all0) K38 all0) K39 all0) K45 all0) K46 all0) K52 all0)
                have f82 := (Z31.keep KK81 nin0 nin0)
                have KK83 := (kT (kT (kT (kT (kR h38 []) K39 all0) K45 all0) K46 all0) K52 all0)
                have f84 := (Z38.keep KK83 nin0 nin0)
                have KK85 := (kT (kT (kR h45 []) K46 all0) K52 all0)
                have f86 := (Z45.keep KK85 nin0 nin0)
                have KK87 := (kT (kT (kT (kT (kT (kT (kT (kT (kT (kT (kT (kT (kR h []) K all0) K20 all0) K24 (allS (Or.inr (lT K.1 ge20)) all0)) K25 all0) K26 all0) K31 all0) K32 all0) K38 all0) K39 all0) K45 all0) K46 all0) K52 all0)
                exact J248 x kx z0 z1 z2 z3 z4 z5 (.val (.ref a20)) (.val (.ref x25)) (.val (.int 0)) z31 z38 z45 z52 t31 t38 t45 t52 k31_ k38_ k45_ k52_ vm52 T52 h52 p0 p2 f79 f82 f84 f86 Z52 KK87 (CHr.trans (CHr.trans (CHr.trans (CHr.trans (CHr.trans (CHr.trans (CHr.trans (CHr.trans (CHr.trans (CHr.trans (CHr.trans (CHr.trans (CHr.trans A A15) A16) A20) A24) A25) A26) A31) A32) A38) A39) A45) A46) A52) (C52.more (k' := 121) (n' := 750) (by decide) (by decide))
              · refine C52.cY (pc' := 216) at_198 (XT.ii_ne_t c80) (by decide) rfl (C52.ic (z := 0) at_216 rfl (C52.iSk at_217 (l' := #[.val (.int i0), .val (.int i1), .val (.int i2), .val (.ref x), .val (.int (Int32.ofNat (own_ix 35 [z0, z1, z2, z3, z4, z5]))), .val (.int (Int32.ofNat (own_ix 63 [z0, z1, z2, z3, z4, z5]))), .val (.int (Int32.ofNat (own_qm [z0, z1, z2, z3, z4, z5]))), .val (.int (Int32.ofNat (own_ix 58 [z0, z1, z2, z3, z4, z5]))), .val (.int (Int32.ofNat (own_ix 47 [z0, z1, z2, z3, z4, z5]))), .val (.ref a20), .val (.ref x25), .val (.ref z31), .val (.ref z38), .val (.ref z45), .val (.ref z52), .val (.int 0), .unset, .unset, .unset, .unset, .unset]) rfl (C52.iLk at_219 rfl (C52.fY (pc' := 242) at_221 (XT.i0_eq_t (by decide)) (by decide) rfl (C52.iLk at_242 rfl (C52.ic (z := 1) at_244 rfl (C52.ad (z := ((Int32.ofNat (own_ix 58 [z0, z1, z2, z3, z4, z5])) + (1 : Int32))) at_245 rfl ?_)))))))
                rw [show ((Int32.ofNat (own_ix 58 [z0, z1, z2, z3, z4, z5])) + (1 : Int32)) = (Int32.ofNat ((own_ix 58 [z0, z1, z2, z3, z4, z5]) + 1)) from own_add _ 1]
                rw [show (own_ix 58 [z0, z1, z2, z3, z4, z5]) + 1 = (own_ps [z0, z1, z2, z3, z4, z5]) from by rw [own_ps, if_neg c53, hhs]]
                show Endw p e below T52 (mkF m 246 #[.val (.int i0), .val (.int i1), .val (.int i2), .val (.ref x), .val (.int (Int32.ofNat (own_ix 35 [z0, z1, z2, z3, z4, z5]))), .val (.int (Int32.ofNat (own_ix 63 [z0, z1, z2, z3, z4, z5]))), .val (.int (Int32.ofNat (own_qm [z0, z1, z2, z3, z4, z5]))), .val (.int (Int32.ofNat (own_ix 58 [z0, z1, z2, z3, z4, z5]))), .val (.int (Int32.ofNat (own_ix 47 [z0, z1, z2, z3, z4, z5]))), .val (.ref a20), .val (.ref x25), .val (.ref z31), .val (.ref z38), .val (.ref z45), .val (.ref z52), .val (.int 0), .unset, .unset, .unset, .unset, .unset] [(.int (Int32.ofNat (own_ps [z0, z1, z2, z3, z4, z5])))]) _
                refine C52.iSk at_246 (l' := #[.val (.int i0), .val (.int i1), .val (.int i2), .val (.ref x), .val (.int (Int32.ofNat (own_ix 35 [z0, z1, z2, z3, z4, z5]))), .val (.int (Int32.ofNat (own_ix 63 [z0, z1, z2, z3, z4, z5]))), .val (.int (Int32.ofNat (own_qm [z0, z1, z2, z3, z4, z5]))), .val (.int (Int32.ofNat (own_ix 58 [z0, z1, z2, z3, z4, z5]))), .val (.int (Int32.ofNat (own_ix 47 [z0, z1, z2, z3, z4, z5]))), .val (.ref a20), .val (.ref x25), .val (.ref z31), .val (.ref z38), .val (.ref z45), .val (.ref z52), .val (.int 0), .val (.int (Int32.ofNat (own_ps [z0, z1, z2, z3, z4, z5]))), .unset, .unset, .unset, .unset]) rfl ?_
                have KK88 := (kT (kT (kT (kT (kT (kT (kR h31 []) K32 all0) K38 all0) K39 all0) K45 all0) K46 all0) K52 all0)
                have f89 := (Z31.keep KK88 nin0 nin0)
                have KK90 := (kT (kT (kT (kT (kR h38 []) K39 all0) K45 all0) K46 all0) K52 all0)
                have f91 := (Z38.keep KK90 nin0 nin0)
                have KK92 := (kT (kT (kR h45 []) K46 all0) K52 all0)
                have f93 := (Z45.keep KK92 nin0 nin0)
                have KK94 := (kT (kT (kT (kT (kT (kT (kT (kT (kT (kT (kT (kT (kR h []) K all0) K20 all0) K24 (allS (Or.inr (lT K.1 ge20)) all0)) K25 all0) K26 all0) K31 all0) K32 all0) K38 all0) K39 all0) K45 all0) K46 all0) K52 all0)
                exact J248 x kx z0 z1 z2 z3 z4 z5 (.val (.ref a20)) (.val (.ref x25)) (.val (.int 0)) z31 z38 z45 z52 t31 t38 t45 t52 k31_ k38_ k45_ k52_ vm52 T52 h52 p0 p2 f79 f89 f91 f93 Z52 KK94 (CHr.trans (CHr.trans (CHr.trans (CHr.trans (CHr.trans (CHr.trans (CHr.trans (CHr.trans (CHr.trans (CHr.trans (CHr.trans (CHr.trans (CHr.trans A A15) A16) A20) A24) A25) A26) A31) A32) A38) A39) A45) A46) A52) (C52.more (k' := 121) (n' := 750) (by decide) (by decide))
        · refine C16.cN at_124 (XT.ii_lt_f c19) (C16.ic (z := 1) at_127 rfl ?_)
          exact C16.retI (t := .boolean) rfl (by simp) rfl at_128 (by decide) (by decide) rfl
      · refine C16.cY (pc' := 127) at_117 (XT.ii_ge_t c18) (by decide) rfl (C16.ic (z := 1) at_127 rfl ?_)
        exact C16.retI (t := .boolean) rfl (by simp) rfl at_128 (by decide) (by decide) rfl
    · refine C16.fY (pc' := 127) at_110 (XT.i0_le_t c17) (by decide) rfl (C16.ic (z := 1) at_127 rfl ?_)
      exact C16.retI (t := .boolean) rfl (by simp) rfl at_128 (by decide) (by decide) rfl
  refine C0.bi (z := 6) at_0 rfl ?_
  refine C0.newA (aty := .char) (z := (6 : Int32)) (cap := 6) (vs := [(.int 0), (.int 0), (.int 0), (.int 0), (.int 0), (.int 0)]) (wd hw 0 rfl) at_2 (pc' := 4) rfl (by decide) (by decide) (by decide) (by decide) (by decide) rfl ?_
  intro T95 h95 a95 kA95 C95 K95 A95 ge95 zg95 V95 S95
  refine C95.aS at_4 rfl (l' := #[.val (.int i0), .val (.int i1), .val (.int i2), .val (.ref a95), .unset, .unset, .unset, .unset, .unset, .unset, .unset, .unset, .unset, .unset, .unset, .unset, .unset, .unset, .unset, .unset, .unset]) rfl (C95.aL at_5 rfl rfl (C95.ic (z := 0) at_6 rfl (C95.iL at_7 rfl ?_)))
  refine C95.static (W := 2) (wd hw 1 rfl) (wd hw 2 rfl) (wd hw 4 rfl) (W3 hw) (by decide) (rm_pick l Z a0 EL G i0 h95 C95.old) (fun _ => rfl) rfl all0 (by decide) (by decide) (by decide) (by decide) (lenOf pd_28492943 rfl) rfl (nb rfl) rfl at_8 (pc' := 11) rfl ?_
  intro vm96 T96 h96 v96 C96 A96 M96 q96
  obtain ⟨v96_, rfl, bv96_, rfl⟩ := q96
  refine C96.castore V95 ⟨by decide, by decide⟩ 0 (by decide) (nb rfl) (x' := v96_) (own_i2c16 (own_b16 bv96_)) zg95 (vs' := [(.int v96_), (.int 0), (.int 0), (.int 0), (.int 0), (.int 0)]) rfl at_11 (pc' := 12) rfl ?_
  intro T97 h97 C97 K97 A97 V97
  refine C97.aL at_12 rfl rfl (C97.ic (z := 1) at_13 rfl (C97.iL at_14 rfl (C97.bi (z := 16) at_15 rfl ?_)))
  refine Endw.st (T' := T97) (g' := (mkF m 18 #[.val (.int i0), .val (.int i1), .val (.int i2), .val (.ref a95), .unset, .unset, .unset, .unset, .unset, .unset, .unset, .unset, .unset, .unset, .unset, .unset, .unset, .unset, .unset, .unset, .unset] [(.int ((i0.toUInt32 >>> ((16 : Int32) &&& 31).toUInt32).toInt32)), (.int 1), (.ref a95)])) (fun _ k_ => XS.iushr C97.here C97.hx rfl (C97.dec at_17) rfl k_) ?_
  refine C97.static (W := 2) (wd hw 1 rfl) (wd hw 2 rfl) (wd hw 4 rfl) (W3 hw) (by decide) (rm_pick l Z a0 EL G ((i0.toUInt32 >>> ((16 : Int32) &&& 31).toUInt32).toInt32) h97 C97.old) (fun _ => rfl) rfl all0 (by decide) (by decide) (by decide) (by decide) (lenOf pd_28492943 rfl) rfl (nb rfl) rfl at_18 (pc' := 21) rfl ?_
  intro vm98 T98 h98 v98 C98 A98 M98 q98
  obtain ⟨v98_, rfl, bv98_, rfl⟩ := q98
  refine C98.castore V97 ⟨by decide, by decide⟩ 1 (by decide) (nb rfl) (x' := v98_) (own_i2c16 (own_b16 bv98_)) zg95 (vs' := [(.int v96_), (.int v98_), (.int 0), (.int 0), (.int 0), (.int 0)]) rfl at_21 (pc' := 22) rfl ?_
  intro T99 h99 C99 K99 A99 V99
  refine C99.aL at_22 rfl rfl (C99.ic (z := 2) at_23 rfl (C99.iL at_24 rfl ?_))
  refine C99.static (W := 2) (wd hw 1 rfl) (wd hw 2 rfl) (wd hw 4 rfl) (W3 hw) (by decide) (rm_pick l Z a0 EL G i1 h99 C99.old) (fun _ => rfl) rfl all0 (by decide) (by decide) (by decide) (by decide) (lenOf pd_28492943 rfl) rfl (nb rfl) rfl at_25 (pc' := 28) rfl ?_
  intro vm100 T100 h100 v100 C100 A100 M100 q100
  obtain ⟨v100_, rfl, bv100_, rfl⟩ := q100
  refine C100.castore V99 ⟨by decide, by decide⟩ 2 (by decide) (nb rfl) (x' := v100_) (own_i2c16 (own_b16 bv100_)) zg95 (vs' := [(.int v96_), (.int v98_), (.int v100_), (.int 0), (.int 0), (.int 0)]) rfl at_28 (pc' := 29) rfl ?_
  intro T101 h101 C101 K101 A101 V101
  refine C101.aL at_29 rfl rfl (C101.ic (z := 3) at_30 rfl (C101.iL at_31 rfl (C101.bi (z := 16) at_32 rfl ?_)))
  refine Endw.st (T' := T101) (g' := (mkF m 35 #[.val (.int i0), .val (.int i1), .val (.int i2), .val (.ref a95), .unset, .unset, .unset, .unset, .unset, .unset, .unset, .unset, .unset, .unset, .unset, .unset, .unset, .unset, .unset, .unset, .unset] [(.int ((i1.toUInt32 >>> ((16 : Int32) &&& 31).toUInt32).toInt32)), (.int 3), (.ref a95)])) (fun _ k_ => XS.iushr C101.here C101.hx rfl (C101.dec at_34) rfl k_) ?_
  refine C101.static (W := 2) (wd hw 1 rfl) (wd hw 2 rfl) (wd hw 4 rfl) (W3 hw) (by decide) (rm_pick l Z a0 EL G ((i1.toUInt32 >>> ((16 : Int32) &&& 31).toUInt32).toInt32) h101 C101.old) (fun _ => rfl) rfl all0 (by decide) (by decide) (by decide) (by decide) (lenOf pd_28492943 rfl) rfl (nb rfl) rfl at_35 (pc' := 38) rfl ?_
  intro vm102 T102 h102 v102 C102 A102 M102 q102
  obtain ⟨v102_, rfl, bv102_, rfl⟩ := q102
  refine C102.castore V101 ⟨by decide, by decide⟩ 3 (by decide) (nb rfl) (x' := v102_) (own_i2c16 (own_b16 bv102_)) zg95 (vs' := [(.int v96_), (.int v98_), (.int v100_), (.int v102_), (.int 0), (.int 0)]) rfl at_38 (pc' := 39) rfl ?_
  intro T103 h103 C103 K103 A103 V103
  refine C103.aL at_39 rfl rfl (C103.ic (z := 4) at_40 rfl (C103.iL at_41 rfl ?_))
  refine C103.static (W := 2) (wd hw 1 rfl) (wd hw 2 rfl) (wd hw 4 rfl) (W3 hw) (by decide) (rm_pick l Z a0 EL G i2 h103 C103.old) (fun _ => rfl) rfl all0 (by decide) (by decide) (by decide) (by decide) (lenOf pd_28492943 rfl) rfl (nb rfl) rfl at_42 (pc' := 45) rfl ?_
  intro vm104 T104 h104 v104 C104 A104 M104 q104
  obtain ⟨v104_, rfl, bv104_, rfl⟩ := q104
  refine C104.castore V103 ⟨by decide, by decide⟩ 4 (by decide) (nb rfl) (x' := v104_) (own_i2c16 (own_b16 bv104_)) zg95 (vs' := [(.int v96_), (.int v98_), (.int v100_), (.int v102_), (.int v104_), (.int 0)]) rfl at_45 (pc' := 46) rfl ?_
  intro T105 h105 C105 K105 A105 V105
  refine C105.aL at_46 rfl rfl (C105.ic (z := 5) at_47 rfl (C105.iL at_48 rfl (C105.bi (z := 16) at_49 rfl ?_)))
  refine Endw.st (T' := T105) (g' := (mkF m 52 #[.val (.int i0), .val (.int i1), .val (.int i2), .val (.ref a95), .unset, .unset, .unset, .unset, .unset, .unset, .unset, .unset, .unset, .unset, .unset, .unset, .unset, .unset, .unset, .unset, .unset] [(.int ((i2.toUInt32 >>> ((16 : Int32) &&& 31).toUInt32).toInt32)), (.int 5), (.ref a95)])) (fun _ k_ => XS.iushr C105.here C105.hx rfl (C105.dec at_51) rfl k_) ?_
  refine C105.static (W := 2) (wd hw 1 rfl) (wd hw 2 rfl) (wd hw 4 rfl) (W3 hw) (by decide) (rm_pick l Z a0 EL G ((i2.toUInt32 >>> ((16 : Int32) &&& 31).toUInt32).toInt32) h105 C105.old) (fun _ => rfl) rfl all0 (by decide) (by decide) (by decide) (by decide) (lenOf pd_28492943 rfl) rfl (nb rfl) rfl at_52 (pc' := 55) rfl ?_
  intro vm106 T106 h106 v106 C106 A106 M106 q106
  obtain ⟨v106_, rfl, bv106_, rfl⟩ := q106
  refine C106.castore V105 ⟨by decide, by decide⟩ 5 (by decide) (nb rfl) (x' := v106_) (own_i2c16 (own_b16 bv106_)) zg95 (vs' := [(.int v96_), (.int v98_), (.int v100_), (.int v102_), (.int v104_), (.int v106_)]) rfl at_55 (pc' := 56) rfl ?_
  intro T107 h107 C107 K107 A107 V107
  refine C107.aL at_56 rfl rfl (C107.bi (z := 35) at_57 rfl (C107.ic (z := 0) at_59 rfl ?_))
  refine C107.static (W := 0) (wd hw 5 rfl) (wd hw 6 rfl) (wd hw 7 rfl) (W3 hw) (by decide) (rm_idx0 l Z a0 EL G a95 kA95 v96_ v98_ v100_ v102_ v104_ v106_ (35 : Int32) h107 C107.old V107) (fun _ => rfl) rfl all0 (by decide) (by decide) (by decide) (by decide) (lenOf pd_285b4343492949 rfl) rfl (nb rfl) rfl at_60 (pc' := 63) rfl ?_
  intro vm108 T108 h108 v108 C108 A108 M108 q108
  obtain ⟨rfl, rfl⟩ := q108
  refine C108.iSk at_63 (l' := #[.val (.int i0), .val (.int i1), .val (.int i2), .val (.ref a95), .val (.int (Int32.ofNat (own_ix 35 [v96_, v98_, v100_, v102_, v104_, v106_]))), .unset, .unset, .unset, .unset, .unset, .unset, .unset, .unset, .unset, .unset, .unset, .unset, .unset, .unset, .unset, .unset]) rfl (C108.aL at_65 rfl rfl (C108.bi (z := 63) at_66 rfl (C108.ic (z := 0) at_68 rfl ?_)))
  refine C108.static (W := 0) (wd hw 5 rfl) (wd hw 6 rfl) (wd hw 7 rfl) (W3 hw) (by decide) (rm_idx0 l Z a0 EL G a95 kA95 v96_ v98_ v100_ v102_ v104_ v106_ (63 : Int32) h107 C108.old V107) (fun _ => rfl) rfl all0 (by decide) (by decide) (by decide) (by decide) (lenOf pd_285b4343492949 rfl) rfl (nb rfl) rfl at_69 (pc' := 72) rfl ?_
  intro vm109 T109 h109 v109 C109 A109 M109 q109
  obtain ⟨rfl, rfl⟩ := q109
  refine C109.iSk at_72 (l' := #[.val (.int i0), .val (.int i1), .val (.int i2), .val (.ref a95), .val (.int (Int32.ofNat (own_ix 35 [v96_, v98_, v100_, v102_, v104_, v106_]))), .val (.int (Int32.ofNat (own_ix 63 [v96_, v98_, v100_, v102_, v104_, v106_]))), .unset, .unset, .unset, .unset, .unset, .unset, .unset, .unset, .unset, .unset, .unset, .unset, .unset, .unset, .unset]) rfl (C109.iLk at_74 rfl (C109.iLk at_76 rfl ?_))
  by_cases c110 : (Int32.ofNat (own_ix 63 [v96_, v98_, v100_, v102_, v104_, v106_])) < (Int32.ofNat (own_ix 35 [v96_, v98_, v100_, v102_, v104_, v106_]))
  · refine C109.cN at_78 (XT.ii_ge_f c110) (C109.iLk at_81 rfl (C109.go (pc' := 88) at_83 (by decide) rfl (C109.iSk at_88 (l' := #[.val (.int i0), .val (.int i1), .val (.int i2), .val (.ref a95), .val (.int (Int32.ofNat (own_ix 35 [v96_, v98_, v100_, v102_, v104_, v106_]))), .val (.int (Int32.ofNat (own_ix 63 [v96_, v98_, v100_, v102_, v104_, v106_]))), .val (.int (Int32.ofNat (own_ix 63 [v96_, v98_, v100_, v102_, v104_, v106_]))), .unset, .unset, .unset, .unset, .unset, .unset, .unset, .unset, .unset, .unset, .unset, .unset, .unset, .unset]) rfl ?_)))
    have KK111 := (kT (kT (kT (kT (kT (kT (kT (kR h []) K95 all0) K97 (allS (Or.inr ge95) all0)) K99 (allS (Or.inr ge95) all0)) K101 (allS (Or.inr ge95) all0)) K103 (allS (Or.inr ge95) all0)) K105 (allS (Or.inr ge95) all0)) K107 (allS (Or.inr ge95) all0))
    exact J90 a95 kA95 v96_ v98_ v100_ v102_ v104_ v106_ (own_ix 63 [v96_, v98_, v100_, v102_, v104_, v106_]) vm109 T109 h107 (by rw [own_qm, if_pos ((own_lt (by have := own_ix_le 35 [v96_, v98_, v100_, v102_, v104_, v106_]; have := own_ix_le 63 [v96_, v98_, v100_, v102_, v104_, v106_]; have e6 : ([v96_, v98_, v100_, v102_, v104_, v106_] : List Int32).length = 6 := rfl; omega) (by have := own_ix_le 35 [v96_, v98_, v100_, v102_, v104_, v106_]; have := own_ix_le 63 [v96_, v98_, v100_, v102_, v104_, v106_]; have e6 : ([v96_, v98_, v100_, v102_, v104_, v106_] : List Int32).length = 6 := rfl; omega)).mp c110)]) V107 bv96_ bv98_ bv100_ bv102_ bv104_ bv106_ KK111 (CHr.trans (CHr.trans (CHr.trans (CHr.trans (CHr.trans (CHr.trans (CHr.trans (CHr.trans (CHr.trans (CHr.trans (CHr.trans (CHr.trans (CHr.trans (CHr.trans A95 A96) A97) A98) A99) A100) A101) A102) A103) A104) A105) A106) A107) A108) A109) C109
  · refine C109.cY (pc' := 86) at_78 (XT.ii_ge_t c110) (by decide) rfl (C109.iLk at_86 rfl (C109.iSk at_88 (l' := #[.val (.int i0), .val (.int i1), .val (.int i2), .val (.ref a95), .val (.int (Int32.ofNat (own_ix 35 [v96_, v98_, v100_, v102_, v104_, v106_]))), .val (.int (Int32.ofNat (own_ix 63 [v96_, v98_, v100_, v102_, v104_, v106_]))), .val (.int (Int32.ofNat (own_ix 35 [v96_, v98_, v100_, v102_, v104_, v106_]))), .unset, .unset, .unset, .unset, .unset, .unset, .unset, .unset, .unset, .unset, .unset, .unset, .unset, .unset]) rfl ?_))
    have KK112 := (kT (kT (kT (kT (kT (kT (kT (kR h []) K95 all0) K97 (allS (Or.inr ge95) all0)) K99 (allS (Or.inr ge95) all0)) K101 (allS (Or.inr ge95) all0)) K103 (allS (Or.inr ge95) all0)) K105 (allS (Or.inr ge95) all0)) K107 (allS (Or.inr ge95) all0))
    exact J90 a95 kA95 v96_ v98_ v100_ v102_ v104_ v106_ (own_ix 35 [v96_, v98_, v100_, v102_, v104_, v106_]) vm109 T109 h107 (by rw [own_qm, if_neg (fun z => c110 ((own_lt (by have := own_ix_le 35 [v96_, v98_, v100_, v102_, v104_, v106_]; have := own_ix_le 63 [v96_, v98_, v100_, v102_, v104_, v106_]; have e6 : ([v96_, v98_, v100_, v102_, v104_, v106_] : List Int32).length = 6 := rfl; omega) (by have := own_ix_le 35 [v96_, v98_, v100_, v102_, v104_, v106_]; have := own_ix_le 63 [v96_, v98_, v100_, v102_, v104_, v106_]; have e6 : ([v96_, v98_, v100_, v102_, v104_, v106_] : List Int32).length = 6 := rfl; omega)).mpr z))]) V107 bv96_ bv98_ bv100_ bv102_ bv104_ bv106_ KK112 (CHr.trans (CHr.trans (CHr.trans (CHr.trans (CHr.trans (CHr.trans (CHr.trans (CHr.trans (CHr.trans (CHr.trans (CHr.trans (CHr.trans (CHr.trans (CHr.trans A95 A96) A97) A98) A99) A100) A101) A102) A103) A104) A105) A106) A107) A108) A109) C109
end Walks
set_option maxRecDepth 65536 in
set_option maxHeartbeats 40000000 in
theorem comes_1 {Post : Tables → Env → Array Value → State → Outcome → State → Prop} (hpost : ∀ tb e args s v u, (limb_1_1.after args s (.returned v) u = true ∧ limb_1_2.after args s (.returned v) u = true ∧ True) → FramedW s (.returned v) u (Jvm.fieldLocs frame_1_writes args s ++ Jvm.arrayLocs frame_1_arrays args s ++ Jvm.staticLocs frame_1_statics s) 136 18048 → Post tb e args s (.returned v) u) :
    ArmFor flags0 classFile x code maxLocals ret World_1 tables_1 room_1 Calls_1 rest_1 Pre_1 Post := by
  intro l hfl _ _ p e ha hc hk s m args below hf hA hF happ hP
  obtain ⟨hcalls, hrest, hpre⟩ := hP
  obtain ⟨-, -, -, hnamed, -, -, -, hat⟩ := (Spec.applies_iff hf).mp happ
  obtain ⟨hg, hn⟩ := and_e (Cond.before_iff.mp (show (Jvm.Cond.and given_1 narrow_1).before args s = true from hpre))
  obtain ⟨h1, g0⟩ := and_e hg
  obtain ⟨a0, g1⟩ := and_e g0
  obtain ⟨a1, g2⟩ := and_e g1
  have a2 := g2
  obtain ⟨w0, w1, w2, rfl⟩ : ∃ w0 w1 w2 : Value, args = #[w0, w1, w2] := by
    have hs : args.size = 3 := by simpa [Cond.value, given_1] using h1
    obtain ⟨L⟩ := args
    match L, hs with
    | [w0, w1, w2], _ => exact ⟨w0, w1, w2, rfl⟩
  have hw := fun d (hd : d ∈ tables_1) => atoms_spec (ws := Jvm.Cond.code x code maxLocals ret :: tables_1) hat d (List.mem_cons_of_mem _ hd)
  obtain ⟨hsets, hown0⟩ := atoms_of _ (rest_1_c_eq ▸ (show rest_1_c.before _ s = true from hrest))
  obtain ⟨i0, e0⟩ := is_v a0
  obtain rfl : w0 = (.int i0) := Option.some.inj e0
  obtain ⟨i1, e1⟩ := is_v a1
  obtain rfl : w1 = (.int i1) := Option.some.inj e1
  obtain ⟨i2, e2⟩ := is_v a2
  obtain rfl : w2 = (.int i2) := Option.some.inj e2
  have n5 := not_v (Cond.before_iff.mp (hsets _ (List.mem_of_getElem? (i := 2) rfl)))
  obtain ⟨zc, ec⟩ := is_v (Cond.before_iff.mp (hsets _ (List.mem_of_getElem? (i := 1) rfl)))
  have Sc : Sta s s.heap "java/lang/String" "COMPACT_STRINGS" "Z" (.int zc) := Sta.start ec (Or.inl (hsets _ (List.mem_of_getElem? (i := 0) rfl)))
  have hzc : ¬ (zc = (0 : Int32)) := gotF (Cond.eq_ints ec (Term.int_eval (0))) n5
  obtain ⟨vf, ef, rf⟩ := isR_v (Cond.before_iff.mp (hsets _ (List.mem_of_getElem? (i := 8) rfl)))
  have Sf : Sta s s.heap "jdk/internal/util/Preconditions" "SIOOBE_FORMATTER" "Ljava/util/function/BiFunction;" vf := Sta.start ef (Or.inl (hsets _ (List.mem_of_getElem? (i := 7) rfl)))
  obtain ⟨vo, So, hvo⟩ := own_staRef (ty := .object "java/util/function/BiFunction") ((heapFits'_iff s).mp hF) (W346 hw) (hsets _ (List.mem_of_getElem? (i := 5) rfl)) (by decide +kernel) rfl
  have hEW : EW s #[(.int i0), (.int i1), (.int i2)] consts_1 := (EW.cons (W194 hw) (by decide) (EW.cons (W310 hw) (by decide) (EW.cons (W319 hw) (by decide) (EW.cons (W321 hw) (by decide) (EW.cons (W322 hw) (by decide) (EW.cons (W323 hw) (by decide) (EW.cons (W324 hw) (by decide) (EW.cons (W325 hw) (by decide) (EW.cons (W326 hw) (by decide) (EW.cons (W327 hw) (by decide) (EW.cons (W88 hw) (by decide) (EW.cons (W107 hw) (by decide) (EW.cons (W173 hw) (by decide) (EW.cons (W303 hw) (by decide) (EW.cons (W305 hw) (by decide) (EW.cons (W371 hw) (by decide) (EW.cons (W304 hw) (by decide) EW.nil)))))))))))))))))
  have hG : Glob s #[(.int i0), (.int i1), (.int i2)] consts_1 := ⟨hw, hEW, rfl, ⟨zc, Sc, hzc⟩, ⟨vf, Sf, rf⟩, ⟨vo, So, hvo⟩⟩
  have hCH : CHv s consts_1 s.vm s.heap := CHv.start hEW hcalls.1 (hsets _ (List.mem_of_getElem? (i := 2) rfl)) (W26 hw) (W9 hw)
  obtain ⟨n, o, h1, h2, h3, v, L, rfl, ⟨rfl, N, -⟩, ⟨-, hwm⟩, hq⟩ := rm_law l s _ consts_1 hG i0 i1 i2 s.heap ⟨Nat.le_refl _, fun _ _ q => q⟩ p e ha hc hk s m _ below hf ((Spec.applies_iff_loose hf).mp happ).1 ⟨rfl, State.Warmed39.refl s, rfl, hCH, all0⟩ trivial
  refine ⟨n, _, h1, h2, h3, hpost _ _ _ _ _ _ ⟨Cond.after_iff.mpr rfl, Cond.after_iff.mpr (eq_i res_at (Term.int_eval (1)) rfl), trivial⟩ ⟨hq.1, hq.2.1, hq.2.2.1, (hq.2.2.2.sift fun y hy => Or.inr (N y hy)).mono (by decide) (by decide)⟩⟩
theorem main_1_1 : Claimed_1_1 := comes_1 fun _ _ _ _ _ _ h hF => ⟨h.1, hF⟩
theorem main_1_2 : Claimed_1_2 := comes_1 fun _ _ _ _ _ _ h hF => ⟨h.2.1, hF⟩
end Jvm.Pilot.@@N@@
namespace Jvm.Pilot.@@N@@
open Jvm Jvm.ClassFile Sem Op Lib Jvm.Free Jvm.Stand Jvm.Pilot.@@N@@.Jvm.D
namespace start1
open Jvm.ClassFile
def u (s : String) : CpInfo := .utf8 (stringToUtf16 s)
def gap : Nat → List CpInfo → List CpInfo
  | 0, r => r
  | n + 1, r => .unusable :: gap n r
def poolList (es : List (Nat × CpInfo)) (last : Nat) : List CpInfo := es.foldr (fun e r => gap e.1 (e.2 :: r)) (gap last [])
def pool (es : List (Nat × CpInfo)) (last : Nat) : Array CpInfo := ⟨poolList es last⟩
def fileOf (pool : Array CpInfo) (this : Nat) (attrs : Array Attribute := #[]) (ms : Array MethodInfo := #[]) (fl : Nat := 33) (sup : Nat := 0) (ifs : Array Nat := #[]) (fds : Array FieldInfo := #[]) : ClassFile where
  minorVersion := 0
  majorVersion := 65
  constantPool := pool
  accessFlags := fl
  thisClass := this
  superClass := sup
  interfaces := ifs
  fields := fds
  methods := ms
  attributes := attrs
def plain (name : String) (sup : Option ClassId) : Class where
  name := name
  kind := .ordinary
  loader := none
  accessFlags := 33
  super := sup
  interfaces := #[]
  cf := none
  fields := #[]
  methods := #[]
  instanceTypes := #[]
  staticTypes := #[]
  resolved := #[]
  callSites := []
  init := .initialized
  statics := none
  mirror := none

def pool0 : Array CpInfo := pool [(5, u "<init>"), (0, u "()V"), (1, .class_ 10), (1, u "java/lang/Object"), (85, u "clone"), (0, u "()Ljava/lang/Object;")] 26

def k0c0 : Code := { maxStack := 0, maxLocals := 1, code := object_method_1_code, exceptionTable := #[], attributes := #[] }
def k0m0 : Method := { name := "<init>", desc := "()V", sig := { parameters := [], returnType := none }, accessFlags := 1, code := some k0c0 }
def k0m1 : Method := { name := "clone", desc := "()Ljava/lang/Object;", sig := { parameters := [], returnType := some (.object "java/lang/Object") }, accessFlags := 260, code := none }
def k0 : Class := { plain "java/lang/Object" none with
  accessFlags := 33
  interfaces := #[]
  cf := some (fileOf pool0 8 #[] #[{ accessFlags := 1, nameIndex := 5, descriptorIndex := 6, attributes := #[] }, { accessFlags := 260, nameIndex := 96, descriptorIndex := 97, attributes := #[] }] 33 0 #[] #[])
  fields := #[]
  methods := #[k0m0, k0m1]
  instanceTypes := #[]
  staticTypes := #[]
  resolved := Array.replicate 124 none
  statics := none }

def pool1 : Array CpInfo := pool [(2, .class_ 4), (1, u "java/lang/Object"), (0, u "<init>"), (0, u "()V"), (0, .methodref 8 9), (0, .class_ 10), (0, .nameAndType 11 12), (0, u "java/lang/String"), (0, u "charAt"), (0, u "(I)C"), (0, .methodref 14 15), (0, .class_ 16), (0, .nameAndType 17 12), (0, u "com/example/quadrille/quadrille/rdf/BaseIriOfPinLaw"), (0, u "pick"), (0, .methodref 14 19), (0, .nameAndType 20 21), (0, u "idxFrom"), (0, u "([CCI)I"), (0, .methodref 8 23), (0, .nameAndType 5 24), (0, u "([C)V"), (0, .methodref 26 27), (0, .class_ 28), (0, .nameAndType 29 30), (0, u "com/example/quadrille/quadrille/rdf/BaseIri"), (0, u "of"), (0, u "(Ljava/lang/String;)Lcom/example/quadrille/quadrille/rdf/BaseIri;"), (0, .string 32), (0, u ""), (0, .methodref 26 34), (0, .nameAndType 35 36), (0, u "resolve"), (0, u "(Ljava/lang/String;)Ljava/lang/String;"), (0, .string 38), (0, u "?"), (0, .string 40), (0, u "/y"), (0, .string 42), (0, u "//x"), (0, .methodref 44 45), (0, .class_ 46), (0, .nameAndType 47 48), (0, u "java/lang/Math"), (0, u "min"), (0, u "(II)I"), (0, .methodref 8 50), (0, .nameAndType 51 52), (0, u "length"), (0, u "()I"), (0, .methodref 14 54), (0, .nameAndType 55 56), (0, u "sameUpTo"), (0, u "(Ljava/lang/String;[CI)Z"), (3, u "law"), (0, u "(III)Z")] 7

def k1m0 : Method := { name := "<init>", desc := "()V", sig := { parameters := [], returnType := none }, accessFlags := 1, code := none }
def k1c1 : Code := { maxStack := 2, maxLocals := 2, code := method_2_code, exceptionTable := #[], attributes := #[] }
def k1m1 : Method := { name := "pick", desc := "(I)C", sig := { parameters := [.int], returnType := some .char }, accessFlags := 10, code := some k1c1 }
def k1c2 : Code := { maxStack := 2, maxLocals := 3, code := method_3_code, exceptionTable := #[], attributes := #[] }
def k1m2 : Method := { name := "idxFrom", desc := "([CCI)I", sig := { parameters := [(.array .char), .char, .int], returnType := some .int }, accessFlags := 10, code := some k1c2 }
def k1c3 : Code := { maxStack := 3, maxLocals := 3, code := method_4_code, exceptionTable := #[], attributes := #[] }
def k1m3 : Method := { name := "sameUpTo", desc := "(Ljava/lang/String;[CI)Z", sig := { parameters := [(.object "java/lang/String"), (.array .char), .int], returnType := some .boolean }, accessFlags := 10, code := some k1c3 }
def k1c4 : Code := { maxStack := 4, maxLocals := 21, code := code, exceptionTable := #[], attributes := #[] }
def k1m4 : Method := { name := "law", desc := "(III)Z", sig := { parameters := [.int, .int, .int], returnType := some .boolean }, accessFlags := 9, code := some k1c4 }
def k1 : Class := { plain "com/example/quadrille/quadrille/rdf/BaseIriOfPinLaw" (some 0) with
  accessFlags := 49
  interfaces := #[]
  cf := some (fileOf pool1 14 #[] #[{ accessFlags := 1, nameIndex := 5, descriptorIndex := 6, attributes := #[] }, { accessFlags := 10, nameIndex := 17, descriptorIndex := 12, attributes := #[] }, { accessFlags := 10, nameIndex := 20, descriptorIndex := 21, attributes := #[] }, { accessFlags := 10, nameIndex := 55, descriptorIndex := 56, attributes := #[] }, { accessFlags := 9, nameIndex := 60, descriptorIndex := 61, attributes := #[] }] 49 2 #[] #[])
  fields := #[]
  methods := #[k1m0, k1m1, k1m2, k1m3, k1m4]
  instanceTypes := #[]
  staticTypes := #[]
  resolved := Array.replicate 69 none
  statics := none }

def pool2 : Array CpInfo := pool [(1, .class_ 2), (0, u "java/io/Serializable"), (0, .class_ 4), (0, u "java/lang/Object")] 2

def k2 : Class := { plain "java/io/Serializable" (some 0) with
  accessFlags := 1537
  interfaces := #[]
  cf := some (fileOf pool2 1 #[] #[] 1537 3 #[] #[])
  fields := #[]
  methods := #[]
  instanceTypes := #[]
  staticTypes := #[]
  resolved := Array.replicate 7 none
  statics := none }

def pool3 : Array CpInfo := pool [(1, .class_ 2), (0, u "java/lang/Comparable"), (0, .class_ 4), (0, u "java/lang/Object")] 7

def k3 : Class := { plain "java/lang/Comparable" (some 0) with
  accessFlags := 1537
  interfaces := #[]
  cf := some (fileOf pool3 1 #[] #[] 1537 3 #[] #[])
  fields := #[]
  methods := #[]
  instanceTypes := #[]
  staticTypes := #[]
  resolved := Array.replicate 12 none
  statics := none }

def pool4 : Array CpInfo := pool [(2, .class_ 4), (1, u "java/lang/CharSequence"), (0, u "length"), (0, u "()I"), (40, .class_ 48), (0, u "java/lang/CharSequence$1CodePointIterator"), (10, .class_ 60), (0, u "java/lang/CharSequence$1CharIterator"), (5, .class_ 67), (0, u "java/lang/Object")] 63

def k4m0 : Method := { name := "length", desc := "()I", sig := { parameters := [], returnType := some .int }, accessFlags := 1025, code := none }
def k4 : Class := { plain "java/lang/CharSequence" (some 0) with
  accessFlags := 1537
  interfaces := #[]
  cf := some (fileOf pool4 2 #[.nestMembers #[47, 59]] #[{ accessFlags := 1025, nameIndex := 5, descriptorIndex := 6, attributes := #[] }] 1537 66 #[] #[])
  fields := #[]
  methods := #[k4m0]
  instanceTypes := #[]
  staticTypes := #[]
  resolved := Array.replicate 131 none
  statics := none }

def pool5 : Array CpInfo := pool [(1, .class_ 2), (0, u "java/lang/constant/Constable"), (0, .class_ 4), (0, u "java/lang/Object")] 6

def k5 : Class := { plain "java/lang/constant/Constable" (some 0) with
  accessFlags := 1537
  interfaces := #[]
  cf := some (fileOf pool5 1 #[] #[] 1537 3 #[] #[])
  fields := #[]
  methods := #[]
  instanceTypes := #[]
  staticTypes := #[]
  resolved := Array.replicate 11 none
  statics := none }

def pool6 : Array CpInfo := pool [(1, .class_ 2), (0, u "java/lang/constant/ConstantDesc"), (0, .class_ 4), (0, u "java/lang/Object")] 32

def k6 : Class := { plain "java/lang/constant/ConstantDesc" (some 0) with
  accessFlags := 1537
  interfaces := #[]
  cf := some (fileOf pool6 1 #[] #[] 1537 3 #[] #[])
  fields := #[]
  methods := #[]
  instanceTypes := #[]
  staticTypes := #[]
  resolved := Array.replicate 37 none
  statics := none }

def pool7 : Array CpInfo := pool [(1, .methodref 2 3), (0, .class_ 4), (0, .nameAndType 5 6), (0, u "java/lang/Object"), (0, u "<init>"), (0, u "()V"), (2, .fieldref 10 11), (0, .class_ 12), (0, .nameAndType 13 14), (0, u "java/lang/String"), (0, u "value"), (0, u "[B"), (0, .fieldref 10 16), (0, .nameAndType 17 18), (0, u "coder"), (0, u "B"), (2, u "hash"), (0, u "I"), (2, u "hashIsZero"), (0, u "Z"), (0, .methodref 10 28), (0, .nameAndType 5 29), (0, u "([CIILjava/lang/Void;)V"), (8, .fieldref 10 39), (0, .nameAndType 40 26), (0, u "COMPACT_STRINGS"), (1, .class_ 44), (1, u "java/lang/StringUTF16"), (0, u "compress"), (1, .methodref 42 48), (0, .nameAndType 49 50), (0, u "coderFromArrayLen"), (0, u "([BI)B"), (3, .methodref 55 56), (0, .class_ 57), (0, .nameAndType 58 59), (0, u "java/util/Arrays"), (0, u "copyOfRange"), (0, u "([BII)[B"), (47, .class_ 109), (1, u "java/lang/StringLatin1"), (32, u "()Z"), (34, .methodref 42 178), (0, .nameAndType 45 179), (0, u "([CII)[B"), (13, .class_ 195), (1, u "java/lang/System"), (15, u "([BB)V"), (0, .methodref 193 213), (0, .nameAndType 214 215), (0, u "arraycopy"), (0, u "(Ljava/lang/Object;ILjava/lang/Object;II)V"), (118, u "()I"), (0, .methodref 10 336), (0, .nameAndType 17 337), (0, u "()B"), (2, u "()[B"), (22, u "([BI)C"), (12, u "([BI[BII)I"), (14, u "(II)V"), (35, u "(I)C"), (61, .methodref 10 490), (0, .nameAndType 5 491), (0, u "(Ljava/lang/AbstractStringBuilder;Ljava/lang/Void;)V"), (0, .methodref 10 493), (0, .nameAndType 494 142), (0, u "isLatin1"), (0, .methodref 107 496), (0, .nameAndType 497 363), (0, u "charAt"), (3, u "checkIndex"), (3, .methodref 10 506), (0, .nameAndType 507 334), (0, u "length"), (5, u "checkFromToIndex"), (7, .methodref 10 522), (0, .nameAndType 523 524), (0, u "checkBoundsBeginEnd"), (0, u "(III)V"), (7, u "getBytes"), (16, .methodref 550 506), (0, .class_ 551), (0, u "java/lang/AbstractStringBuilder"), (0, .methodref 550 553), (0, .nameAndType 554 340), (0, u "getValue"), (4, .class_ 561), (1, u "jdk/internal/util/ArraysSupport"), (0, u "mismatch"), (12, .class_ 576), (0, u "java/lang/CharSequence"), (22, u "CASE_INSENSITIVE_ORDER"), (0, u "Ljava/util/Comparator;"), (6, .methodref 559 608), (0, .nameAndType 562 376), (15, .methodref 10 625), (0, .nameAndType 626 627), (0, u "startsWith"), (0, u "(Ljava/lang/String;I)Z"), (5, .methodref 10 634), (0, .nameAndType 635 636), (0, u "indexOf"), (0, u "(II)I"), (0, .methodref 107 638), (0, .nameAndType 635 639), (0, u "([BIII)I"), (41, .methodref 10 682), (0, .nameAndType 683 684), (0, u "substring"), (0, u "(II)Ljava/lang/String;"), (0, .methodref 107 686), (0, .nameAndType 687 688), (0, u "newString"), (0, u "([BII)Ljava/lang/String;"), (3, u "isEmpty"), (72, u "(I)I"), (55, u "([BIB)V"), (70, u "(I)Ljava/lang/String;"), (117, u "([C)V"), (36, .methodref 550 493), (5, .fieldref 1054 1055), (0, .class_ 1056), (0, .nameAndType 1057 1058), (0, u "jdk/internal/util/Preconditions"), (0, u "SIOOBE_FORMATTER"), (0, u "Ljava/util/function/BiFunction;"), (0, .methodref 1054 1060), (0, .nameAndType 501 1061), (0, u "(IILjava/util/function/BiFunction;)I"), (0, .methodref 1054 1063), (0, .nameAndType 513 1064), (0, u "(IIILjava/util/function/BiFunction;)I"), (36, u "serialPersistentFields"), (0, u "[Ljava/io/ObjectStreamField;"), (0, .class_ 1104), (0, u "java/lang/String$CaseInsensitiveComparator"), (1, .class_ 1107), (0, u "java/io/Serializable"), (0, .class_ 1109), (0, u "java/lang/Comparable"), (0, .class_ 1111), (0, u "java/lang/constant/Constable"), (0, .class_ 1113), (0, u "java/lang/constant/ConstantDesc"), (2, u "serialVersionUID"), (0, u "J"), (3, u "REPL"), (0, u "C"), (2, u "LATIN1"), (1, u "UTF16"), (105, u "(Ljava/lang/StringBuilder;)V"), (23, u "(Ljava/lang/String;)Z")] 193

def k7m0 : Method := { name := "<init>", desc := "()V", sig := { parameters := [], returnType := none }, accessFlags := 1, code := none }
def k7c1 : Code := { maxStack := 5, maxLocals := 2, code := jdk_42_method_3_code, exceptionTable := #[], attributes := #[] }
def k7m1 : Method := { name := "<init>", desc := "([C)V", sig := { parameters := [(.array .char)], returnType := none }, accessFlags := 1, code := some k7c1 }
def k7c2 : Code := { maxStack := 3, maxLocals := 2, code := jdk_42_method_53_code, exceptionTable := #[], attributes := #[] }
def k7m2 : Method := { name := "<init>", desc := "(Ljava/lang/StringBuilder;)V", sig := { parameters := [(.object "java/lang/StringBuilder")], returnType := none }, accessFlags := 1, code := some k7c2 }
def k7c3 : Code := { maxStack := 2, maxLocals := 1, code := jdk_42_method_54_code, exceptionTable := #[], attributes := #[] }
def k7m3 : Method := { name := "length", desc := "()I", sig := { parameters := [], returnType := some .int }, accessFlags := 1, code := some k7c3 }
def k7c4 : Code := { maxStack := 1, maxLocals := 1, code := jdk_42_method_55_code, exceptionTable := #[], attributes := #[] }
def k7m4 : Method := { name := "isEmpty", desc := "()Z", sig := { parameters := [], returnType := some .boolean }, accessFlags := 1, code := some k7c4 }
def k7c5 : Code := { maxStack := 2, maxLocals := 2, code := jdk_42_method_56_code, exceptionTable := #[], attributes := #[] }
def k7m5 : Method := { name := "charAt", desc := "(I)C", sig := { parameters := [.int], returnType := some .char }, accessFlags := 1, code := some k7c5 }
def k7c6 : Code := { maxStack := 5, maxLocals := 8, code := jdk_42_method_75_code, exceptionTable := #[], attributes := #[] }
def k7m6 : Method := { name := "startsWith", desc := "(Ljava/lang/String;I)Z", sig := { parameters := [(.object "java/lang/String"), .int], returnType := some .boolean }, accessFlags := 1, code := some k7c6 }
def k7c7 : Code := { maxStack := 3, maxLocals := 2, code := jdk_42_method_76_code, exceptionTable := #[], attributes := #[] }
def k7m7 : Method := { name := "startsWith", desc := "(Ljava/lang/String;)Z", sig := { parameters := [(.object "java/lang/String")], returnType := some .boolean }, accessFlags := 1, code := some k7c7 }
def k7c8 : Code := { maxStack := 3, maxLocals := 2, code := jdk_42_method_79_code, exceptionTable := #[], attributes := #[] }
def k7m8 : Method := { name := "indexOf", desc := "(I)I", sig := { parameters := [.int], returnType := some .int }, accessFlags := 1, code := some k7c8 }
def k7c9 : Code := { maxStack := 4, maxLocals := 3, code := jdk_42_method_80_code, exceptionTable := #[], attributes := #[] }
def k7m9 : Method := { name := "indexOf", desc := "(II)I", sig := { parameters := [.int, .int], returnType := some .int }, accessFlags := 1, code := some k7c9 }
def k7c10 : Code := { maxStack := 3, maxLocals := 2, code := jdk_42_method_91_code, exceptionTable := #[], attributes := #[] }
def k7m10 : Method := { name := "substring", desc := "(I)Ljava/lang/String;", sig := { parameters := [.int], returnType := some (.object "java/lang/String") }, accessFlags := 1, code := some k7c10 }
def k7c11 : Code := { maxStack := 3, maxLocals := 5, code := jdk_42_method_92_code, exceptionTable := #[], attributes := #[] }
def k7m11 : Method := { name := "substring", desc := "(II)Ljava/lang/String;", sig := { parameters := [.int, .int], returnType := some (.object "java/lang/String") }, accessFlags := 1, code := some k7c11 }
def k7c12 : Code := { maxStack := 5, maxLocals := 4, code := jdk_42_method_147_code, exceptionTable := #[], attributes := #[] }
def k7m12 : Method := { name := "getBytes", desc := "([BIB)V", sig := { parameters := [(.array .byte), .int, .byte], returnType := none }, accessFlags := 0, code := some k7c12 }
def k7c13 : Code := { maxStack := 4, maxLocals := 6, code := jdk_42_method_149_code, exceptionTable := #[], attributes := #[] }
def k7m13 : Method := { name := "<init>", desc := "([CIILjava/lang/Void;)V", sig := { parameters := [(.array .char), .int, .int, (.object "java/lang/Void")], returnType := none }, accessFlags := 2, code := some k7c13 }
def k7c14 : Code := { maxStack := 5, maxLocals := 5, code := jdk_42_method_150_code, exceptionTable := #[], attributes := #[] }
def k7m14 : Method := { name := "<init>", desc := "(Ljava/lang/AbstractStringBuilder;Ljava/lang/Void;)V", sig := { parameters := [(.object "java/lang/AbstractStringBuilder"), (.object "java/lang/Void")], returnType := none }, accessFlags := 0, code := some k7c14 }
def k7c15 : Code := { maxStack := 2, maxLocals := 3, code := jdk_42_method_151_code, exceptionTable := #[], attributes := #[] }
def k7m15 : Method := { name := "<init>", desc := "([BB)V", sig := { parameters := [(.array .byte), .byte], returnType := none }, accessFlags := 0, code := some k7c15 }
def k7c16 : Code := { maxStack := 1, maxLocals := 1, code := jdk_42_method_152_code, exceptionTable := #[], attributes := #[] }
def k7m16 : Method := { name := "coder", desc := "()B", sig := { parameters := [], returnType := some .byte }, accessFlags := 0, code := some k7c16 }
def k7c17 : Code := { maxStack := 1, maxLocals := 1, code := jdk_42_method_153_code, exceptionTable := #[], attributes := #[] }
def k7m17 : Method := { name := "value", desc := "()[B", sig := { parameters := [], returnType := some (.array .byte) }, accessFlags := 0, code := some k7c17 }
def k7c18 : Code := { maxStack := 1, maxLocals := 1, code := jdk_42_method_154_code, exceptionTable := #[], attributes := #[] }
def k7m18 : Method := { name := "isLatin1", desc := "()Z", sig := { parameters := [], returnType := some .boolean }, accessFlags := 0, code := some k7c18 }
def k7c19 : Code := { maxStack := 3, maxLocals := 2, code := jdk_42_method_155_code, exceptionTable := #[], attributes := #[] }
def k7m19 : Method := { name := "checkIndex", desc := "(II)V", sig := { parameters := [.int, .int], returnType := none }, accessFlags := 8, code := some k7c19 }
def k7c20 : Code := { maxStack := 4, maxLocals := 3, code := jdk_42_method_158_code, exceptionTable := #[], attributes := #[] }
def k7m20 : Method := { name := "checkBoundsBeginEnd", desc := "(III)V", sig := { parameters := [.int, .int, .int], returnType := none }, accessFlags := 8, code := some k7c20 }
def k7 : Class := { plain "java/lang/String" (some 0) with
  accessFlags := 49
  interfaces := #[2, 3, 4, 5, 6]
  cf := some (fileOf pool7 10 #[.nestMembers #[1103]] #[{ accessFlags := 1, nameIndex := 5, descriptorIndex := 6, attributes := #[] }, { accessFlags := 1, nameIndex := 5, descriptorIndex := 1010, attributes := #[] }, { accessFlags := 1, nameIndex := 5, descriptorIndex := 1233, attributes := #[] }, { accessFlags := 1, nameIndex := 507, descriptorIndex := 334, attributes := #[] }, { accessFlags := 1, nameIndex := 692, descriptorIndex := 142, attributes := #[] }, { accessFlags := 1, nameIndex := 497, descriptorIndex := 427, attributes := #[] }, { accessFlags := 1, nameIndex := 626, descriptorIndex := 627, attributes := #[] }, { accessFlags := 1, nameIndex := 626, descriptorIndex := 1257, attributes := #[] }, { accessFlags := 1, nameIndex := 635, descriptorIndex := 765, attributes := #[] }, { accessFlags := 1, nameIndex := 635, descriptorIndex := 636, attributes := #[] }, { accessFlags := 1, nameIndex := 683, descriptorIndex := 892, attributes := #[] }, { accessFlags := 1, nameIndex := 683, descriptorIndex := 684, attributes := #[] }, { accessFlags := 0, nameIndex := 532, descriptorIndex := 821, attributes := #[] }, { accessFlags := 2, nameIndex := 5, descriptorIndex := 29, attributes := #[] }, { accessFlags := 0, nameIndex := 5, descriptorIndex := 491, attributes := #[] }, { accessFlags := 0, nameIndex := 5, descriptorIndex := 211, attributes := #[] }, { accessFlags := 0, nameIndex := 17, descriptorIndex := 337, attributes := #[] }, { accessFlags := 0, nameIndex := 13, descriptorIndex := 340, attributes := #[] }, { accessFlags := 0, nameIndex := 494, descriptorIndex := 142, attributes := #[] }, { accessFlags := 8, nameIndex := 501, descriptorIndex := 391, attributes := #[] }, { accessFlags := 8, nameIndex := 523, descriptorIndex := 524, attributes := #[] }] 49 2 #[1106, 1108, 575, 1110, 1112] #[{ accessFlags := 18, nameIndex := 13, descriptorIndex := 14, attributes := #[] }, { accessFlags := 18, nameIndex := 17, descriptorIndex := 18, attributes := #[] }, { accessFlags := 2, nameIndex := 21, descriptorIndex := 22, attributes := #[] }, { accessFlags := 2, nameIndex := 25, descriptorIndex := 26, attributes := #[] }, { accessFlags := 26, nameIndex := 1116, descriptorIndex := 1117, attributes := #[] }, { accessFlags := 24, nameIndex := 40, descriptorIndex := 26, attributes := #[] }, { accessFlags := 26, nameIndex := 1101, descriptorIndex := 1102, attributes := #[] }, { accessFlags := 26, nameIndex := 1121, descriptorIndex := 1122, attributes := #[] }, { accessFlags := 25, nameIndex := 599, descriptorIndex := 600, attributes := #[] }, { accessFlags := 24, nameIndex := 1125, descriptorIndex := 18, attributes := #[] }, { accessFlags := 24, nameIndex := 1127, descriptorIndex := 18, attributes := #[] }])
  fields := #[{ name := "value", type := (.array .byte), accessFlags := 18, slot := 0, constantValue := 0 }, { name := "coder", type := .byte, accessFlags := 18, slot := 1, constantValue := 0 }, { name := "hash", type := .int, accessFlags := 2, slot := 2, constantValue := 0 }, { name := "hashIsZero", type := .boolean, accessFlags := 2, slot := 3, constantValue := 0 }, { name := "serialVersionUID", type := .long, accessFlags := 26, slot := 0, constantValue := 0 }, { name := "COMPACT_STRINGS", type := .boolean, accessFlags := 24, slot := 1, constantValue := 0 }, { name := "serialPersistentFields", type := (.array (.object "java/io/ObjectStreamField")), accessFlags := 26, slot := 2, constantValue := 0 }, { name := "REPL", type := .char, accessFlags := 26, slot := 3, constantValue := 0 }, { name := "CASE_INSENSITIVE_ORDER", type := (.object "java/util/Comparator"), accessFlags := 25, slot := 4, constantValue := 0 }, { name := "LATIN1", type := .byte, accessFlags := 24, slot := 5, constantValue := 0 }, { name := "UTF16", type := .byte, accessFlags := 24, slot := 6, constantValue := 0 }]
  methods := #[k7m0, k7m1, k7m2, k7m3, k7m4, k7m5, k7m6, k7m7, k7m8, k7m9, k7m10, k7m11, k7m12, k7m13, k7m14, k7m15, k7m16, k7m17, k7m18, k7m19, k7m20]
  instanceTypes := #[(.array .byte), .byte, .int, .boolean]
  staticTypes := #[.long, .boolean, (.array (.object "java/io/ObjectStreamField")), .char, (.object "java/util/Comparator"), .byte, .byte]
  resolved := Array.replicate 1451 none
  statics := some 0 }

def pool8 : Array CpInfo := pool [(6, .class_ 8), (1, u "java/lang/Object"), (0, u "<init>"), (0, u "()V"), (1, .class_ 14), (1, u "java/lang/StringUTF16"), (31, u "$assertionsDisabled"), (0, u "Z"), (13, u "HI_BYTE_SHIFT"), (0, u "I"), (2, u "LO_BYTE_SHIFT"), (49, .methodref 12 116), (0, .nameAndType 117 118), (0, u "compress"), (0, u "([CI[BII)I"), (3, u "([CII)[B"), (138, u "coderFromArrayLen"), (0, u "([BI)B"), (106, .class_ 371), (1, u "java/lang/StringUTF16$LinesSpliterator"), (58, u "MAX_LENGTH"), (196, .class_ 628), (0, u "java/lang/StringUTF16$CodePointsSpliterator"), (0, .class_ 630), (0, u "java/lang/StringUTF16$CharsSpliterator")] 4

def k8m0 : Method := { name := "<init>", desc := "()V", sig := { parameters := [], returnType := none }, accessFlags := 0, code := none }
def k8c1 : Code := { maxStack := 2, maxLocals := 2, code := jdk_52_method_15_code, exceptionTable := #[], attributes := #[] }
def k8m1 : Method := { name := "coderFromArrayLen", desc := "([BI)B", sig := { parameters := [(.array .byte), .int], returnType := some .byte }, accessFlags := 8, code := some k8c1 }
def k8c2 : Code := { maxStack := 5, maxLocals := 6, code := jdk_52_method_16_code, exceptionTable := #[], attributes := #[] }
def k8m2 : Method := { name := "compress", desc := "([CII)[B", sig := { parameters := [(.array .char), .int, .int], returnType := some (.array .byte) }, accessFlags := 9, code := some k8c2 }
def k8c3 : Code := { maxStack := 3, maxLocals := 7, code := jdk_52_method_21_code, exceptionTable := #[], attributes := #[] }
def k8m3 : Method := { name := "compress", desc := "([CI[BII)I", sig := { parameters := [(.array .char), .int, (.array .byte), .int, .int], returnType := some .int }, accessFlags := 9, code := some k8c3 }
def k8 : Class := { plain "java/lang/StringUTF16" (some 0) with
  accessFlags := 48
  interfaces := #[]
  cf := some (fileOf pool8 12 #[.nestMembers #[627, 629, 369]] #[{ accessFlags := 0, nameIndex := 9, descriptorIndex := 10, attributes := #[] }, { accessFlags := 8, nameIndex := 261, descriptorIndex := 262, attributes := #[] }, { accessFlags := 9, nameIndex := 117, descriptorIndex := 122, attributes := #[] }, { accessFlags := 9, nameIndex := 117, descriptorIndex := 118, attributes := #[] }] 48 6 #[] #[{ accessFlags := 26, nameIndex := 61, descriptorIndex := 62, attributes := #[] }, { accessFlags := 26, nameIndex := 65, descriptorIndex := 62, attributes := #[] }, { accessFlags := 24, nameIndex := 430, descriptorIndex := 62, attributes := #[] }, { accessFlags := 4120, nameIndex := 46, descriptorIndex := 47, attributes := #[] }])
  fields := #[{ name := "HI_BYTE_SHIFT", type := .int, accessFlags := 26, slot := 0, constantValue := 0 }, { name := "LO_BYTE_SHIFT", type := .int, accessFlags := 26, slot := 1, constantValue := 0 }, { name := "MAX_LENGTH", type := .int, accessFlags := 24, slot := 2, constantValue := 0 }, { name := "$assertionsDisabled", type := .boolean, accessFlags := 4120, slot := 3, constantValue := 0 }]
  methods := #[k8m0, k8m1, k8m2, k8m3]
  instanceTypes := #[]
  staticTypes := #[.int, .int, .int, .boolean]
  resolved := Array.replicate 635 none
  statics := none }

def pool9 : Array CpInfo := pool [(1, .methodref 2 3), (0, .class_ 4), (0, .nameAndType 5 6), (0, u "java/lang/Object"), (0, u "<init>"), (0, u "()V"), (0, .fieldref 8 9), (0, .class_ 10), (0, .nameAndType 11 12), (0, u "com/example/quadrille/quadrille/rdf/BaseIri"), (0, u "iri"), (0, u "Ljava/lang/String;"), (0, .fieldref 8 14), (0, .nameAndType 15 16), (0, u "base"), (0, u "Lcom/example/quadrille/quadrille/rdf/BaseIri$Components;"), (0, .methodref 18 19), (0, .class_ 20), (0, .nameAndType 21 22), (0, u "com/example/quadrille/quadrille/rdf/BaseIri$Components"), (0, u "of"), (0, u "(Ljava/lang/String;)Lcom/example/quadrille/quadrille/rdf/BaseIri$Components;"), (0, .fieldref 18 24), (0, .nameAndType 25 12), (0, u "scheme"), (5, u "(Ljava/lang/String;)Ljava/lang/String;"), (3, .methodref 8 36), (0, .nameAndType 5 37), (0, u "(Ljava/lang/String;Lcom/example/quadrille/quadrille/rdf/BaseIri$Components;)V"), (0, .methodref 8 39), (0, .nameAndType 40 41), (0, u "target"), (0, u "(Lcom/example/quadrille/quadrille/rdf/BaseIri$Components;)Lcom/example/quadrille/quadrille/rdf/BaseIri$Components;"), (0, .fieldref 18 43), (0, .nameAndType 44 12), (0, u "authority"), (0, .fieldref 18 46), (0, .nameAndType 47 12), (0, u "path"), (0, .string 49), (0, u "//"), (0, .methodref 51 52), (0, .class_ 53), (0, .nameAndType 54 55), (0, u "java/lang/String"), (0, u "startsWith"), (0, u "(Ljava/lang/String;)Z"), (11, .methodref 18 68), (0, .nameAndType 69 70), (0, u "toString"), (0, u "()Ljava/lang/String;"), (0, .methodref 8 72), (0, .nameAndType 73 31), (0, u "removeDotSegments"), (0, .fieldref 18 75), (0, .nameAndType 76 12), (0, u "query"), (0, .methodref 51 78), (0, .nameAndType 79 80), (0, u "isEmpty"), (0, u "()Z"), (0, .string 82), (0, u "/"), (3, .fieldref 18 87), (0, .nameAndType 88 12), (0, u "fragment"), (0, .methodref 18 90), (0, .nameAndType 5 91), (0, u "(Ljava/lang/String;Ljava/lang/String;Ljava/lang/String;Ljava/lang/String;Ljava/lang/String;)V"), (12, .methodref 51 105), (0, .nameAndType 106 107), (0, u "length"), (0, u "()I"), (0, .class_ 109), (0, u "java/lang/StringBuilder"), (0, .methodref 108 111), (0, .nameAndType 5 112), (0, u "(I)V"), (0, .string 114), (0, u "../"), (0, .methodref 51 116), (0, .nameAndType 54 117), (0, u "(Ljava/lang/String;I)Z"), (0, .string 119), (0, u "./"), (0, .string 121), (0, u "/./"), (0, .string 123), (0, u "/."), (0, .methodref 108 125), (0, .nameAndType 126 127), (0, u "append"), (0, u "(C)Ljava/lang/StringBuilder;"), (0, .string 129), (0, u "/../"), (4, .string 135), (0, u "/.."), (0, .string 137), (0, u "."), (0, .string 139), (0, u ".."), (0, .methodref 51 141), (0, .nameAndType 142 143), (0, u "indexOf"), (0, u "(II)I"), (0, .methodref 108 145), (0, .nameAndType 126 146), (0, u "(Ljava/lang/CharSequence;II)Ljava/lang/StringBuilder;"), (0, .methodref 108 68), (13, u "(Ljava/lang/String;)Lcom/example/quadrille/quadrille/rdf/BaseIri;"), (1, u "resolve")] 24

def k9c0 : Code := { maxStack := 2, maxLocals := 3, code := prog_3_method_1_code, exceptionTable := #[], attributes := #[] }
def k9m0 : Method := { name := "<init>", desc := "(Ljava/lang/String;Lcom/example/quadrille/quadrille/rdf/BaseIri$Components;)V", sig := { parameters := [(.object "java/lang/String"), (.object "com/example/quadrille/quadrille/rdf/BaseIri$Components")], returnType := none }, accessFlags := 2, code := some k9c0 }
def k9c1 : Code := { maxStack := 4, maxLocals := 2, code := prog_3_method_2_code, exceptionTable := #[], attributes := #[] }
def k9m1 : Method := { name := "of", desc := "(Ljava/lang/String;)Lcom/example/quadrille/quadrille/rdf/BaseIri;", sig := { parameters := [(.object "java/lang/String")], returnType := some (.object "com/example/quadrille/quadrille/rdf/BaseIri") }, accessFlags := 9, code := some k9c1 }
def k9c2 : Code := { maxStack := 8, maxLocals := 5, code := prog_3_method_3_code, exceptionTable := #[], attributes := #[] }
def k9m2 : Method := { name := "resolve", desc := "(Ljava/lang/String;)Ljava/lang/String;", sig := { parameters := [(.object "java/lang/String")], returnType := some (.object "java/lang/String") }, accessFlags := 1, code := some k9c2 }
def k9c3 : Code := { maxStack := 7, maxLocals := 5, code := prog_3_method_4_code, exceptionTable := #[], attributes := #[] }
def k9m3 : Method := { name := "target", desc := "(Lcom/example/quadrille/quadrille/rdf/BaseIri$Components;)Lcom/example/quadrille/quadrille/rdf/BaseIri$Components;", sig := { parameters := [(.object "com/example/quadrille/quadrille/rdf/BaseIri$Components")], returnType := some (.object "com/example/quadrille/quadrille/rdf/BaseIri$Components") }, accessFlags := 2, code := some k9c3 }
def k9c4 : Code := { maxStack := 4, maxLocals := 6, code := prog_3_method_6_code, exceptionTable := #[], attributes := #[] }
def k9m4 : Method := { name := "removeDotSegments", desc := "(Ljava/lang/String;)Ljava/lang/String;", sig := { parameters := [(.object "java/lang/String")], returnType := some (.object "java/lang/String") }, accessFlags := 10, code := some k9c4 }
def k9 : Class := { plain "com/example/quadrille/quadrille/rdf/BaseIri" (some 0) with
  accessFlags := 33
  interfaces := #[]
  cf := some (fileOf pool9 8 #[.nestMembers #[18]] #[{ accessFlags := 2, nameIndex := 5, descriptorIndex := 37, attributes := #[] }, { accessFlags := 9, nameIndex := 21, descriptorIndex := 161, attributes := #[] }, { accessFlags := 1, nameIndex := 163, descriptorIndex := 31, attributes := #[] }, { accessFlags := 2, nameIndex := 40, descriptorIndex := 41, attributes := #[] }, { accessFlags := 10, nameIndex := 73, descriptorIndex := 31, attributes := #[] }] 33 2 #[] #[{ accessFlags := 18, nameIndex := 11, descriptorIndex := 12, attributes := #[] }, { accessFlags := 18, nameIndex := 15, descriptorIndex := 16, attributes := #[] }])
  fields := #[{ name := "iri", type := (.object "java/lang/String"), accessFlags := 18, slot := 0, constantValue := 0 }, { name := "base", type := (.object "com/example/quadrille/quadrille/rdf/BaseIri$Components"), accessFlags := 18, slot := 1, constantValue := 0 }]
  methods := #[k9m0, k9m1, k9m2, k9m3, k9m4]
  instanceTypes := #[(.object "java/lang/String"), (.object "com/example/quadrille/quadrille/rdf/BaseIri$Components")]
  staticTypes := #[]
  resolved := (((((Array.replicate 188 none).setIfInBounds 23 (some (.field 10 0))).setIfInBounds 42 (some (.field 10 1))).setIfInBounds 45 (some (.field 10 2))).setIfInBounds 74 (some (.field 10 3))).setIfInBounds 86 (some (.field 10 4))
  statics := none }

def pool10 : Array CpInfo := pool [(1, .methodref 2 3), (0, .class_ 4), (0, .nameAndType 5 6), (0, u "java/lang/Object"), (0, u "<init>"), (0, u "()V"), (0, .fieldref 8 9), (0, .class_ 10), (0, .nameAndType 11 12), (0, u "com/example/quadrille/quadrille/rdf/BaseIri$Components"), (0, u "scheme"), (0, u "Ljava/lang/String;"), (0, .fieldref 8 14), (0, .nameAndType 15 12), (0, u "authority"), (0, .fieldref 8 17), (0, .nameAndType 18 12), (0, u "path"), (0, .fieldref 8 20), (0, .nameAndType 21 12), (0, u "query"), (0, .fieldref 8 23), (0, .nameAndType 24 12), (0, u "fragment"), (0, .methodref 26 27), (0, .class_ 28), (0, .nameAndType 29 30), (0, u "java/lang/String"), (0, u "indexOf"), (0, u "(I)I"), (0, .methodref 26 32), (0, .nameAndType 33 34), (0, u "length"), (0, u "()I"), (0, .string 36), (0, u ":/"), (0, .methodref 26 38), (0, .nameAndType 39 40), (0, u "charAt"), (0, u "(I)C"), (0, .string 42), (0, u "//"), (0, .methodref 26 44), (0, .nameAndType 45 46), (0, u "startsWith"), (0, u "(Ljava/lang/String;I)Z"), (0, .methodref 26 48), (0, .nameAndType 29 49), (0, u "(II)I"), (0, .methodref 26 51), (0, .nameAndType 52 53), (0, u "substring"), (0, u "(II)Ljava/lang/String;"), (0, .methodref 26 55), (0, .nameAndType 52 56), (0, u "(I)Ljava/lang/String;"), (0, .methodref 8 58), (0, .nameAndType 5 59), (0, u "(Ljava/lang/String;Ljava/lang/String;Ljava/lang/String;Ljava/lang/String;Ljava/lang/String;)V"), (0, .class_ 61), (0, u "java/lang/StringBuilder"), (0, .methodref 60 3), (0, .methodref 60 64), (0, .nameAndType 65 66), (0, u "append"), (0, u "(Ljava/lang/String;)Ljava/lang/StringBuilder;"), (0, .methodref 60 68), (0, .nameAndType 65 69), (0, u "(C)Ljava/lang/StringBuilder;"), (0, .methodref 60 71), (0, .nameAndType 72 73), (0, u "toString"), (0, u "()Ljava/lang/String;"), (2, u "of"), (0, u "(Ljava/lang/String;)Lcom/example/quadrille/quadrille/rdf/BaseIri$Components;"), (4, .class_ 83), (0, u "com/example/quadrille/quadrille/rdf/BaseIri")] 2

def k10c0 : Code := { maxStack := 2, maxLocals := 6, code := prog_4_method_1_code, exceptionTable := #[], attributes := #[] }
def k10m0 : Method := { name := "<init>", desc := "(Ljava/lang/String;Ljava/lang/String;Ljava/lang/String;Ljava/lang/String;Ljava/lang/String;)V", sig := { parameters := [(.object "java/lang/String"), (.object "java/lang/String"), (.object "java/lang/String"), (.object "java/lang/String"), (.object "java/lang/String")], returnType := none }, accessFlags := 0, code := some k10c0 }
def k10c1 : Code := { maxStack := 9, maxLocals := 11, code := prog_4_method_2_code, exceptionTable := #[], attributes := #[] }
def k10m1 : Method := { name := "of", desc := "(Ljava/lang/String;)Lcom/example/quadrille/quadrille/rdf/BaseIri$Components;", sig := { parameters := [(.object "java/lang/String")], returnType := some (.object "com/example/quadrille/quadrille/rdf/BaseIri$Components") }, accessFlags := 8, code := some k10c1 }
def k10c2 : Code := { maxStack := 2, maxLocals := 2, code := prog_4_method_3_code, exceptionTable := #[], attributes := #[] }
def k10m2 : Method := { name := "toString", desc := "()Ljava/lang/String;", sig := { parameters := [], returnType := some (.object "java/lang/String") }, accessFlags := 1, code := some k10c2 }
def k10 : Class := { plain "com/example/quadrille/quadrille/rdf/BaseIri$Components" (some 0) with
  accessFlags := 32
  interfaces := #[]
  cf := some (fileOf pool10 8 #[.nestHost 82] #[{ accessFlags := 0, nameIndex := 5, descriptorIndex := 59, attributes := #[] }, { accessFlags := 8, nameIndex := 76, descriptorIndex := 77, attributes := #[] }, { accessFlags := 1, nameIndex := 72, descriptorIndex := 73, attributes := #[] }] 32 2 #[] #[{ accessFlags := 18, nameIndex := 11, descriptorIndex := 12, attributes := #[] }, { accessFlags := 18, nameIndex := 15, descriptorIndex := 12, attributes := #[] }, { accessFlags := 18, nameIndex := 18, descriptorIndex := 12, attributes := #[] }, { accessFlags := 18, nameIndex := 21, descriptorIndex := 12, attributes := #[] }, { accessFlags := 18, nameIndex := 24, descriptorIndex := 12, attributes := #[] }])
  fields := #[{ name := "scheme", type := (.object "java/lang/String"), accessFlags := 18, slot := 0, constantValue := 0 }, { name := "authority", type := (.object "java/lang/String"), accessFlags := 18, slot := 1, constantValue := 0 }, { name := "path", type := (.object "java/lang/String"), accessFlags := 18, slot := 2, constantValue := 0 }, { name := "query", type := (.object "java/lang/String"), accessFlags := 18, slot := 3, constantValue := 0 }, { name := "fragment", type := (.object "java/lang/String"), accessFlags := 18, slot := 4, constantValue := 0 }]
  methods := #[k10m0, k10m1, k10m2]
  instanceTypes := #[(.object "java/lang/String"), (.object "java/lang/String"), (.object "java/lang/String"), (.object "java/lang/String"), (.object "java/lang/String")]
  staticTypes := #[]
  resolved := Array.replicate 86 none
  statics := none }

def pool11 : Array CpInfo := pool [(1, .class_ 2), (0, u "java/lang/String"), (1, .class_ 6), (1, u "java/lang/Object"), (0, u "<init>"), (0, u "()V"), (0, .methodref 1 10), (0, .nameAndType 11 12), (0, u "checkIndex"), (0, u "(II)V"), (1, .class_ 16), (1, u "java/lang/StringLatin1"), (21, .methodref 39 40), (0, .class_ 41), (0, .nameAndType 42 43), (0, u "java/lang/Math"), (0, u "min"), (0, u "(II)I"), (9, u "([BI)C"), (34, .methodref 14 89), (0, .nameAndType 90 91), (0, u "canEncode"), (0, u "(I)Z"), (0, .methodref 39 93), (0, .nameAndType 94 43), (0, u "max"), (0, .methodref 14 96), (0, .nameAndType 97 98), (0, u "indexOfChar"), (0, u "([BIII)I"), (2, u "indexOf"), (3, u "(C)Z"), (6, .methodref 1 113), (0, .nameAndType 7 114), (0, u "([BB)V"), (6, u "$assertionsDisabled"), (0, u "Z"), (8, .class_ 133), (1, u "java/util/Arrays"), (17, .string 152), (0, u ""), (43, u "newString"), (0, u "([BII)Ljava/lang/String;"), (23, .class_ 223), (1, u "java/lang/StringLatin1$LinesSpliterator"), (8, .methodref 131 233), (0, .nameAndType 234 235), (0, u "copyOfRange"), (0, u "([BII)[B"), (16, u "charAt"), (137, .class_ 391), (0, u "java/lang/StringLatin1$CharsSpliterator")] 3

def k11m0 : Method := { name := "<init>", desc := "()V", sig := { parameters := [], returnType := none }, accessFlags := 0, code := none }
def k11c1 : Code := { maxStack := 2, maxLocals := 2, code := jdk_43_method_2_code, exceptionTable := #[], attributes := #[] }
def k11m1 : Method := { name := "charAt", desc := "([BI)C", sig := { parameters := [(.array .byte), .int], returnType := some .char }, accessFlags := 9, code := some k11c1 }
def k11c2 : Code := { maxStack := 2, maxLocals := 1, code := jdk_43_method_3_code, exceptionTable := #[], attributes := #[] }
def k11m2 : Method := { name := "canEncode", desc := "(C)Z", sig := { parameters := [.char], returnType := some .boolean }, accessFlags := 9, code := some k11c2 }
def k11c3 : Code := { maxStack := 2, maxLocals := 1, code := jdk_43_method_4_code, exceptionTable := #[], attributes := #[] }
def k11m3 : Method := { name := "canEncode", desc := "(I)Z", sig := { parameters := [.int], returnType := some .boolean }, accessFlags := 9, code := some k11c3 }
def k11c4 : Code := { maxStack := 4, maxLocals := 4, code := jdk_43_method_22_code, exceptionTable := #[], attributes := #[] }
def k11m4 : Method := { name := "indexOf", desc := "([BIII)I", sig := { parameters := [(.array .byte), .int, .int, .int], returnType := some .int }, accessFlags := 9, code := some k11c4 }
def k11c5 : Code := { maxStack := 2, maxLocals := 6, code := jdk_43_method_23_code, exceptionTable := #[], attributes := #[] }
def k11m5 : Method := { name := "indexOfChar", desc := "([BIII)I", sig := { parameters := [(.array .byte), .int, .int, .int], returnType := some .int }, accessFlags := 10, code := some k11c5 }
def k11c6 : Code := { maxStack := 6, maxLocals := 3, code := jdk_43_method_47_code, exceptionTable := #[], attributes := #[] }
def k11m6 : Method := { name := "newString", desc := "([BII)Ljava/lang/String;", sig := { parameters := [(.array .byte), .int, .int], returnType := some (.object "java/lang/String") }, accessFlags := 9, code := some k11c6 }
def k11 : Class := { plain "java/lang/StringLatin1" (some 0) with
  accessFlags := 48
  interfaces := #[]
  cf := some (fileOf pool11 14 #[.nestMembers #[390, 221]] #[{ accessFlags := 0, nameIndex := 7, descriptorIndex := 8, attributes := #[] }, { accessFlags := 9, nameIndex := 252, descriptorIndex := 53, attributes := #[] }, { accessFlags := 9, nameIndex := 90, descriptorIndex := 105, attributes := #[] }, { accessFlags := 9, nameIndex := 90, descriptorIndex := 91, attributes := #[] }, { accessFlags := 9, nameIndex := 101, descriptorIndex := 98, attributes := #[] }, { accessFlags := 10, nameIndex := 97, descriptorIndex := 98, attributes := #[] }, { accessFlags := 9, nameIndex := 196, descriptorIndex := 197, attributes := #[] }] 48 4 #[] #[{ accessFlags := 4120, nameIndex := 121, descriptorIndex := 122, attributes := #[] }])
  fields := #[{ name := "$assertionsDisabled", type := .boolean, accessFlags := 4120, slot := 0, constantValue := 0 }]
  methods := #[k11m0, k11m1, k11m2, k11m3, k11m4, k11m5, k11m6]
  instanceTypes := #[]
  staticTypes := #[.boolean]
  resolved := Array.replicate 395 none
  statics := none }

def pool12 : Array CpInfo := pool [(1, .class_ 2), (0, u "java/lang/Math"), (1, .class_ 6), (1, u "java/lang/Object"), (0, u "<init>"), (0, u "()V"), (89, .class_ 100), (1, u "java/lang/Math$RandomNumberGeneratorHolder"), (71, u "negativeZeroFloatBits"), (0, u "J"), (2, u "negativeZeroDoubleBits"), (21, u "max"), (2, u "min"), (43, u "$assertionsDisabled"), (0, u "Z"), (88, u "(II)I"), (2, u "twoToTheDoubleScaleDown"), (0, u "D"), (4, u "twoToTheDoubleScaleUp"), (9, u "E"), (3, u "PI"), (2, u "TAU"), (2, u "DEGREES_TO_RADIANS"), (0, u "RADIANS_TO_DEGREES")] 94

def k12m0 : Method := { name := "<init>", desc := "()V", sig := { parameters := [], returnType := none }, accessFlags := 2, code := none }
def k12c1 : Code := { maxStack := 2, maxLocals := 2, code := jdk_29_method_65_code, exceptionTable := #[], attributes := #[] }
def k12m1 : Method := { name := "max", desc := "(II)I", sig := { parameters := [.int, .int], returnType := some .int }, accessFlags := 9, code := some k12c1 }
def k12c2 : Code := { maxStack := 2, maxLocals := 2, code := jdk_29_method_69_code, exceptionTable := #[], attributes := #[] }
def k12m2 : Method := { name := "min", desc := "(II)I", sig := { parameters := [.int, .int], returnType := some .int }, accessFlags := 9, code := some k12c2 }
def k12 : Class := { plain "java/lang/Math" (some 0) with
  accessFlags := 49
  interfaces := #[]
  cf := some (fileOf pool12 1 #[.nestMembers #[98]] #[{ accessFlags := 2, nameIndex := 7, descriptorIndex := 8, attributes := #[] }, { accessFlags := 9, nameIndex := 198, descriptorIndex := 335, attributes := #[] }, { accessFlags := 9, nameIndex := 201, descriptorIndex := 335, attributes := #[] }] 49 4 #[] #[{ accessFlags := 25, nameIndex := 354, descriptorIndex := 339, attributes := #[] }, { accessFlags := 25, nameIndex := 358, descriptorIndex := 339, attributes := #[] }, { accessFlags := 25, nameIndex := 361, descriptorIndex := 339, attributes := #[] }, { accessFlags := 26, nameIndex := 364, descriptorIndex := 339, attributes := #[] }, { accessFlags := 26, nameIndex := 365, descriptorIndex := 339, attributes := #[] }, { accessFlags := 26, nameIndex := 172, descriptorIndex := 173, attributes := #[] }, { accessFlags := 26, nameIndex := 176, descriptorIndex := 173, attributes := #[] }, { accessFlags := 8, nameIndex := 344, descriptorIndex := 339, attributes := #[] }, { accessFlags := 8, nameIndex := 338, descriptorIndex := 339, attributes := #[] }, { accessFlags := 4120, nameIndex := 245, descriptorIndex := 246, attributes := #[] }])
  fields := #[{ name := "E", type := .double, accessFlags := 25, slot := 0, constantValue := 0 }, { name := "PI", type := .double, accessFlags := 25, slot := 1, constantValue := 0 }, { name := "TAU", type := .double, accessFlags := 25, slot := 2, constantValue := 0 }, { name := "DEGREES_TO_RADIANS", type := .double, accessFlags := 26, slot := 3, constantValue := 0 }, { name := "RADIANS_TO_DEGREES", type := .double, accessFlags := 26, slot := 4, constantValue := 0 }, { name := "negativeZeroFloatBits", type := .long, accessFlags := 26, slot := 5, constantValue := 0 }, { name := "negativeZeroDoubleBits", type := .long, accessFlags := 26, slot := 6, constantValue := 0 }, { name := "twoToTheDoubleScaleUp", type := .double, accessFlags := 8, slot := 7, constantValue := 0 }, { name := "twoToTheDoubleScaleDown", type := .double, accessFlags := 8, slot := 8, constantValue := 0 }, { name := "$assertionsDisabled", type := .boolean, accessFlags := 4120, slot := 9, constantValue := 0 }]
  methods := #[k12m0, k12m1, k12m2]
  instanceTypes := #[]
  staticTypes := #[.double, .double, .double, .double, .double, .long, .long, .double, .double, .boolean]
  resolved := Array.replicate 460 none
  statics := none }

def pool13 : Array CpInfo := pool [(2, .class_ 4), (1, u "java/lang/Object"), (0, u "<init>"), (0, u "()V"), (17, .class_ 26), (1, u "jdk/internal/util/Preconditions"), (6, u "checkIndex"), (13, u "checkFromToIndex"), (7, .class_ 56), (0, u "jdk/internal/util/Preconditions$4"), (57, .class_ 115), (0, u "jdk/internal/util/Preconditions$1"), (7, u "SIOOBE_FORMATTER"), (0, u "Ljava/util/function/BiFunction;"), (0, .class_ 126), (0, u "jdk/internal/util/Preconditions$2"), (3, u "AIOOBE_FORMATTER"), (0, .class_ 132), (0, u "jdk/internal/util/Preconditions$3"), (3, u "IOOBE_FORMATTER"), (41, u "(IILjava/util/function/BiFunction;)I"), (4, u "(IIILjava/util/function/BiFunction;)I")] 10

def k13m0 : Method := { name := "<init>", desc := "()V", sig := { parameters := [], returnType := none }, accessFlags := 1, code := none }
def k13c1 : Code := { maxStack := 3, maxLocals := 3, code := jdk_41_method_11_code, exceptionTable := #[], attributes := #[] }
def k13m1 : Method := { name := "checkIndex", desc := "(IILjava/util/function/BiFunction;)I", sig := { parameters := [.int, .int, (.object "java/util/function/BiFunction")], returnType := some .int }, accessFlags := 9, code := some k13c1 }
def k13c2 : Code := { maxStack := 4, maxLocals := 4, code := jdk_41_method_12_code, exceptionTable := #[], attributes := #[] }
def k13m2 : Method := { name := "checkFromToIndex", desc := "(IIILjava/util/function/BiFunction;)I", sig := { parameters := [.int, .int, .int, (.object "java/util/function/BiFunction")], returnType := some .int }, accessFlags := 9, code := some k13c2 }
def k13 : Class := { plain "jdk/internal/util/Preconditions" (some 0) with
  accessFlags := 33
  interfaces := #[]
  cf := some (fileOf pool13 24 #[.nestMembers #[55, 131, 125, 114]] #[{ accessFlags := 1, nameIndex := 5, descriptorIndex := 6, attributes := #[] }, { accessFlags := 9, nameIndex := 33, descriptorIndex := 178, attributes := #[] }, { accessFlags := 9, nameIndex := 47, descriptorIndex := 183, attributes := #[] }] 33 2 #[] #[{ accessFlags := 25, nameIndex := 123, descriptorIndex := 124, attributes := #[] }, { accessFlags := 25, nameIndex := 130, descriptorIndex := 124, attributes := #[] }, { accessFlags := 25, nameIndex := 136, descriptorIndex := 124, attributes := #[] }])
  fields := #[{ name := "SIOOBE_FORMATTER", type := (.object "java/util/function/BiFunction"), accessFlags := 25, slot := 0, constantValue := 0 }, { name := "AIOOBE_FORMATTER", type := (.object "java/util/function/BiFunction"), accessFlags := 25, slot := 1, constantValue := 0 }, { name := "IOOBE_FORMATTER", type := (.object "java/util/function/BiFunction"), accessFlags := 25, slot := 2, constantValue := 0 }]
  methods := #[k13m0, k13m1, k13m2]
  instanceTypes := #[]
  staticTypes := #[(.object "java/util/function/BiFunction"), (.object "java/util/function/BiFunction"), (.object "java/util/function/BiFunction")]
  resolved := Array.replicate 194 none
  statics := some 1 }

def pool14 : Array CpInfo := pool [(2, .class_ 4), (1, u "java/lang/Object"), (0, u "<init>"), (0, u "()V"), (7, .class_ 16), (1, u "java/util/Arrays"), (57, .class_ 76), (1, u "java/util/Arrays$NaturalOrder"), (32, u "()Ljava/lang/Object;"), (3, .class_ 115), (1, u "java/util/Arrays$LegacyMergeSort"), (1, u "Z"), (10, .nameAndType 129 109), (0, u "clone"), (9, u "copyOfRange"), (10, .methodref 151 152), (0, .class_ 153), (0, .nameAndType 154 155), (0, u "java/lang/System"), (0, u "arraycopy"), (0, u "(Ljava/lang/Object;ILjava/lang/Object;II)V"), (148, .methodref 305 306), (0, .class_ 307), (0, .nameAndType 308 309), (0, u "java/lang/Math"), (0, u "min"), (0, u "(II)I"), (0, .methodref 311 128), (0, .class_ 312), (0, u "[B"), (26, .methodref 14 340), (0, .nameAndType 341 342), (0, u "copyOfRangeByte"), (0, u "([BII)[B"), (0, .methodref 14 344), (0, .nameAndType 345 346), (0, u "checkLength"), (0, u "(II)V"), (28, .class_ 376), (0, u "java/util/Arrays$ArrayList"), (68, u "$assertionsDisabled"), (269, u "MIN_ARRAY_SORT_GRAN"), (0, u "I"), (2, u "INSERTIONSORT_THRESHOLD"), (255, .class_ 976), (0, u "java/util/Arrays$ArrayItr")] 52

def k14m0 : Method := { name := "<init>", desc := "()V", sig := { parameters := [], returnType := none }, accessFlags := 2, code := none }
def k14c1 : Code := { maxStack := 4, maxLocals := 2, code := jdk_65_method_131_code, exceptionTable := #[], attributes := #[] }
def k14m1 : Method := { name := "checkLength", desc := "(II)V", sig := { parameters := [.int, .int], returnType := none }, accessFlags := 10, code := some k14c1 }
def k14c2 : Code := { maxStack := 3, maxLocals := 3, code := jdk_65_method_132_code, exceptionTable := #[], attributes := #[] }
def k14m2 : Method := { name := "copyOfRange", desc := "([BII)[B", sig := { parameters := [(.array .byte), .int, .int], returnType := some (.array .byte) }, accessFlags := 9, code := some k14c2 }
def k14c3 : Code := { maxStack := 6, maxLocals := 5, code := jdk_65_method_133_code, exceptionTable := #[], attributes := #[] }
def k14m3 : Method := { name := "copyOfRangeByte", desc := "([BII)[B", sig := { parameters := [(.array .byte), .int, .int], returnType := some (.array .byte) }, accessFlags := 10, code := some k14c3 }
def k14 : Class := { plain "java/util/Arrays" (some 0) with
  accessFlags := 49
  interfaces := #[]
  cf := some (fileOf pool14 14 #[.nestMembers #[975, 375, 113, 74]] #[{ accessFlags := 2, nameIndex := 5, descriptorIndex := 6, attributes := #[] }, { accessFlags := 10, nameIndex := 345, descriptorIndex := 346, attributes := #[] }, { accessFlags := 9, nameIndex := 139, descriptorIndex := 342, attributes := #[] }, { accessFlags := 10, nameIndex := 341, descriptorIndex := 342, attributes := #[] }] 49 2 #[] #[{ accessFlags := 26, nameIndex := 715, descriptorIndex := 716, attributes := #[] }, { accessFlags := 26, nameIndex := 719, descriptorIndex := 716, attributes := #[] }, { accessFlags := 4120, nameIndex := 445, descriptorIndex := 117, attributes := #[] }])
  fields := #[{ name := "MIN_ARRAY_SORT_GRAN", type := .int, accessFlags := 26, slot := 0, constantValue := 0 }, { name := "INSERTIONSORT_THRESHOLD", type := .int, accessFlags := 26, slot := 1, constantValue := 0 }, { name := "$assertionsDisabled", type := .boolean, accessFlags := 4120, slot := 2, constantValue := 0 }]
  methods := #[k14m0, k14m1, k14m2, k14m3]
  instanceTypes := #[]
  staticTypes := #[.int, .int, .boolean]
  resolved := Array.replicate 1029 none
  statics := none }

def pool15 : Array CpInfo := pool [(2, .class_ 4), (1, u "java/lang/Object"), (0, u "<init>"), (0, u "()V"), (1, .class_ 10), (1, u "java/lang/System"), (0, u "allowSecurityManager"), (0, u "I"), (16, u "cons"), (0, u "Ljava/io/Console;"), (77, .class_ 110), (1, u "java/lang/System$CallersHolder"), (43, u "initialErrStream"), (0, u "Ljava/io/PrintStream;"), (19, u "security"), (0, u "Ljava/lang/SecurityManager;"), (31, .class_ 209), (0, u "java/lang/System$1"), (7, u "props"), (0, u "Ljava/util/Properties;"), (2, u "lineSeparator"), (0, u "Ljava/lang/String;"), (96, .class_ 321), (1, u "java/lang/System$LoggerFinder"), (5, .class_ 328), (0, u "java/lang/System$Logger"), (67, u "err"), (2, u "out"), (91, u "notSupportedJnuEncoding"), (15, u "in"), (17, u "initialIn"), (0, u "Ljava/io/InputStream;"), (35, u "bootLayer"), (0, u "Ljava/lang/ModuleLayer;"), (99, .class_ 664), (0, u "java/lang/System$2"), (9, u "NEVER"), (2, u "MAYBE"), (49, u "arraycopy"), (0, u "(Ljava/lang/Object;ILjava/lang/Object;II)V"), (72, .class_ 802), (0, u "java/lang/System$Logger$Level")] 31

def k15m0 : Method := { name := "<init>", desc := "()V", sig := { parameters := [], returnType := none }, accessFlags := 2, code := none }
def k15m1 : Method := { name := "arraycopy", desc := "(Ljava/lang/Object;ILjava/lang/Object;II)V", sig := { parameters := [(.object "java/lang/Object"), .int, (.object "java/lang/Object"), .int, .int], returnType := none }, accessFlags := 265, code := none }
def k15 : Class := { plain "java/lang/System" (some 0) with
  accessFlags := 49
  interfaces := #[]
  cf := some (fileOf pool15 8 #[.nestMembers #[319, 327, 801, 108, 663, 208]] #[{ accessFlags := 2, nameIndex := 5, descriptorIndex := 6, attributes := #[] }, { accessFlags := 265, nameIndex := 727, descriptorIndex := 728, attributes := #[] }] 49 2 #[] #[{ accessFlags := 25, nameIndex := 507, descriptorIndex := 526, attributes := #[] }, { accessFlags := 25, nameIndex := 399, descriptorIndex := 155, attributes := #[] }, { accessFlags := 25, nameIndex := 396, descriptorIndex := 155, attributes := #[] }, { accessFlags := 10, nameIndex := 525, descriptorIndex := 526, attributes := #[] }, { accessFlags := 26, nameIndex := 674, descriptorIndex := 12, attributes := #[] }, { accessFlags := 26, nameIndex := 677, descriptorIndex := 12, attributes := #[] }, { accessFlags := 10, nameIndex := 11, descriptorIndex := 12, attributes := #[] }, { accessFlags := 74, nameIndex := 175, descriptorIndex := 176, attributes := #[] }, { accessFlags := 10, nameIndex := 491, descriptorIndex := 222, attributes := #[] }, { accessFlags := 74, nameIndex := 29, descriptorIndex := 30, attributes := #[] }, { accessFlags := 74, nameIndex := 154, descriptorIndex := 155, attributes := #[] }, { accessFlags := 10, nameIndex := 217, descriptorIndex := 218, attributes := #[] }, { accessFlags := 10, nameIndex := 221, descriptorIndex := 222, attributes := #[] }, { accessFlags := 8, nameIndex := 562, descriptorIndex := 563, attributes := #[] }])
  fields := #[{ name := "in", type := (.object "java/io/InputStream"), accessFlags := 25, slot := 0, constantValue := 0 }, { name := "out", type := (.object "java/io/PrintStream"), accessFlags := 25, slot := 1, constantValue := 0 }, { name := "err", type := (.object "java/io/PrintStream"), accessFlags := 25, slot := 2, constantValue := 0 }, { name := "initialIn", type := (.object "java/io/InputStream"), accessFlags := 10, slot := 3, constantValue := 0 }, { name := "NEVER", type := .int, accessFlags := 26, slot := 4, constantValue := 0 }, { name := "MAYBE", type := .int, accessFlags := 26, slot := 5, constantValue := 0 }, { name := "allowSecurityManager", type := .int, accessFlags := 10, slot := 6, constantValue := 0 }, { name := "security", type := (.object "java/lang/SecurityManager"), accessFlags := 74, slot := 7, constantValue := 0 }, { name := "notSupportedJnuEncoding", type := (.object "java/lang/String"), accessFlags := 10, slot := 8, constantValue := 0 }, { name := "cons", type := (.object "java/io/Console"), accessFlags := 74, slot := 9, constantValue := 0 }, { name := "initialErrStream", type := (.object "java/io/PrintStream"), accessFlags := 74, slot := 10, constantValue := 0 }, { name := "props", type := (.object "java/util/Properties"), accessFlags := 10, slot := 11, constantValue := 0 }, { name := "lineSeparator", type := (.object "java/lang/String"), accessFlags := 10, slot := 12, constantValue := 0 }, { name := "bootLayer", type := (.object "java/lang/ModuleLayer"), accessFlags := 8, slot := 13, constantValue := 0 }]
  methods := #[k15m0, k15m1]
  instanceTypes := #[]
  staticTypes := #[(.object "java/io/InputStream"), (.object "java/io/PrintStream"), (.object "java/io/PrintStream"), (.object "java/io/InputStream"), .int, .int, .int, (.object "java/lang/SecurityManager"), (.object "java/lang/String"), (.object "java/io/Console"), (.object "java/io/PrintStream"), (.object "java/util/Properties"), (.object "java/lang/String"), (.object "java/lang/ModuleLayer")]
  resolved := Array.replicate 834 none
  statics := none }

def pool16 : Array CpInfo := pool [(1, .class_ 2), (0, u "java/lang/Appendable"), (0, .class_ 4), (0, u "java/lang/Object")] 9

def k16 : Class := { plain "java/lang/Appendable" (some 0) with
  accessFlags := 1537
  interfaces := #[]
  cf := some (fileOf pool16 1 #[] #[] 1537 3 #[] #[])
  fields := #[]
  methods := #[]
  instanceTypes := #[]
  staticTypes := #[]
  resolved := Array.replicate 14 none
  statics := none }

def pool17 : Array CpInfo := pool [(1, .class_ 2), (0, u "java/lang/String"), (0, .methodref 4 5), (0, .class_ 6), (0, .nameAndType 7 8), (0, u "java/lang/Object"), (0, u "<init>"), (0, u "()V"), (1, .class_ 12), (1, u "java/lang/AbstractStringBuilder"), (0, u "EMPTYVALUE"), (0, u "[B"), (0, .fieldref 10 16), (0, .nameAndType 17 14), (0, u "value"), (0, .fieldref 1 19), (0, .nameAndType 20 21), (0, u "COMPACT_STRINGS"), (0, u "Z"), (0, .fieldref 10 23), (0, .nameAndType 24 25), (0, u "coder"), (0, u "B"), (6, .methodref 1 33), (0, .nameAndType 34 35), (0, u "length"), (0, u "()I"), (4, .methodref 1 41), (0, .nameAndType 24 42), (0, u "()B"), (2, u "append"), (0, u "(Ljava/lang/String;)Ljava/lang/AbstractStringBuilder;"), (0, .interfaceMethodref 48 33), (0, .class_ 49), (0, u "java/lang/CharSequence"), (19, u "(Ljava/lang/String;)V"), (5, u "maybeLatin1"), (3, .fieldref 10 80), (0, .nameAndType 81 82), (0, u "count"), (0, u "I"), (0, .methodref 10 84), (0, .nameAndType 85 86), (0, u "isLatin1"), (0, u "()Z"), (1, .class_ 90), (1, u "java/lang/StringLatin1"), (9, .methodref 10 101), (0, .nameAndType 102 103), (0, u "ensureCapacityInternal"), (0, u "(I)V"), (57, .methodref 162 163), (0, .class_ 164), (0, .nameAndType 165 166), (0, u "jdk/internal/util/Preconditions"), (0, u "checkFromToIndex"), (0, u "(IIILjava/util/function/BiFunction;)I"), (15, u "Ljava/util/function/BiFunction;"), (0, .fieldref 162 184), (0, .nameAndType 185 182), (0, u "IOOBE_FORMATTER"), (5, .methodref 88 192), (0, .nameAndType 193 194), (0, u "canEncode"), (0, u "(C)Z"), (13, .methodref 10 209), (0, .nameAndType 210 211), (0, u "putStringAt"), (0, u "(ILjava/lang/String;)V"), (5, u "inflateIfNeededFor"), (2, .nameAndType 221 222), (0, u "getBytes"), (0, u "([BIB)V"), (2, u "(Ljava/lang/CharSequence;II)Ljava/lang/AbstractStringBuilder;"), (6, .methodref 10 233), (0, .nameAndType 234 235), (0, u "appendChars"), (0, u "(Ljava/lang/String;II)V"), (56, u "(C)Ljava/lang/AbstractStringBuilder;"), (16, .methodref 310 311), (0, .class_ 312), (0, .nameAndType 313 314), (0, u "java/lang/System"), (0, u "arraycopy"), (0, u "(Ljava/lang/Object;ILjava/lang/Object;II)V"), (82, .methodref 10 398), (0, .nameAndType 217 69), (0, .methodref 1 220), (0, .methodref 1 84), (0, .methodref 1 402), (0, .nameAndType 17 403), (0, u "()[B"), (40, .class_ 445), (0, u "java/lang/Appendable"), (106, u "getValue")] 56

def k17m0 : Method := { name := "<init>", desc := "()V", sig := { parameters := [], returnType := none }, accessFlags := 0, code := none }
def k17c1 : Code := { maxStack := 2, maxLocals := 2, code := jdk_68_method_2_code, exceptionTable := #[], attributes := #[] }
def k17m1 : Method := { name := "<init>", desc := "(I)V", sig := { parameters := [.int], returnType := none }, accessFlags := 0, code := some k17c1 }
def k17c2 : Code := { maxStack := 1, maxLocals := 1, code := jdk_68_method_6_code, exceptionTable := #[], attributes := #[] }
def k17m2 : Method := { name := "length", desc := "()I", sig := { parameters := [], returnType := some .int }, accessFlags := 1, code := some k17c2 }
def k17c3 : Code := { maxStack := 4, maxLocals := 3, code := jdk_68_method_9_code, exceptionTable := #[], attributes := #[] }
def k17m3 : Method := { name := "ensureCapacityInternal", desc := "(I)V", sig := { parameters := [.int], returnType := none }, accessFlags := 2, code := some k17c3 }
def k17c4 : Code := { maxStack := 3, maxLocals := 3, code := jdk_68_method_22_code, exceptionTable := #[], attributes := #[] }
def k17m4 : Method := { name := "append", desc := "(Ljava/lang/String;)Ljava/lang/AbstractStringBuilder;", sig := { parameters := [(.object "java/lang/String")], returnType := some (.object "java/lang/AbstractStringBuilder") }, accessFlags := 1, code := some k17c4 }
def k17c5 : Code := { maxStack := 4, maxLocals := 5, code := jdk_68_method_27_code, exceptionTable := #[], attributes := #[] }
def k17m5 : Method := { name := "append", desc := "(Ljava/lang/CharSequence;II)Ljava/lang/AbstractStringBuilder;", sig := { parameters := [(.object "java/lang/CharSequence"), .int, .int], returnType := some (.object "java/lang/AbstractStringBuilder") }, accessFlags := 1, code := some k17c5 }
def k17c6 : Code := { maxStack := 5, maxLocals := 2, code := jdk_68_method_31_code, exceptionTable := #[], attributes := #[] }
def k17m6 : Method := { name := "append", desc := "(C)Ljava/lang/AbstractStringBuilder;", sig := { parameters := [.char], returnType := some (.object "java/lang/AbstractStringBuilder") }, accessFlags := 1, code := some k17c6 }
def k17c7 : Code := { maxStack := 1, maxLocals := 1, code := jdk_68_method_64_code, exceptionTable := #[], attributes := #[] }
def k17m7 : Method := { name := "getValue", desc := "()[B", sig := { parameters := [], returnType := some (.array .byte) }, accessFlags := 16, code := some k17c7 }
def k17c8 : Code := { maxStack := 1, maxLocals := 1, code := jdk_68_method_68_code, exceptionTable := #[], attributes := #[] }
def k17m8 : Method := { name := "isLatin1", desc := "()Z", sig := { parameters := [], returnType := some .boolean }, accessFlags := 16, code := some k17c8 }
def k17c9 : Code := { maxStack := 2, maxLocals := 2, code := jdk_68_method_71_code, exceptionTable := #[], attributes := #[] }
def k17m9 : Method := { name := "inflateIfNeededFor", desc := "(Ljava/lang/String;)V", sig := { parameters := [(.object "java/lang/String")], returnType := none }, accessFlags := 2, code := some k17c9 }
def k17c10 : Code := { maxStack := 4, maxLocals := 3, code := jdk_68_method_73_code, exceptionTable := #[], attributes := #[] }
def k17m10 : Method := { name := "putStringAt", desc := "(ILjava/lang/String;)V", sig := { parameters := [.int, (.object "java/lang/String")], returnType := none }, accessFlags := 2, code := some k17c10 }
def k17c11 : Code := { maxStack := 6, maxLocals := 8, code := jdk_68_method_75_code, exceptionTable := #[], attributes := #[] }
def k17m11 : Method := { name := "appendChars", desc := "(Ljava/lang/String;II)V", sig := { parameters := [(.object "java/lang/String"), .int, .int], returnType := none }, accessFlags := 18, code := some k17c11 }
def k17 : Class := { plain "java/lang/AbstractStringBuilder" (some 0) with
  accessFlags := 1056
  interfaces := #[16, 4]
  cf := some (fileOf pool17 10 #[] #[{ accessFlags := 0, nameIndex := 7, descriptorIndex := 8, attributes := #[] }, { accessFlags := 0, nameIndex := 7, descriptorIndex := 103, attributes := #[] }, { accessFlags := 1, nameIndex := 34, descriptorIndex := 35, attributes := #[] }, { accessFlags := 2, nameIndex := 102, descriptorIndex := 103, attributes := #[] }, { accessFlags := 1, nameIndex := 45, descriptorIndex := 46, attributes := #[] }, { accessFlags := 1, nameIndex := 45, descriptorIndex := 225, attributes := #[] }, { accessFlags := 1, nameIndex := 45, descriptorIndex := 292, attributes := #[] }, { accessFlags := 16, nameIndex := 552, descriptorIndex := 403, attributes := #[] }, { accessFlags := 16, nameIndex := 85, descriptorIndex := 86, attributes := #[] }, { accessFlags := 2, nameIndex := 217, descriptorIndex := 69, attributes := #[] }, { accessFlags := 2, nameIndex := 210, descriptorIndex := 211, attributes := #[] }, { accessFlags := 18, nameIndex := 234, descriptorIndex := 235, attributes := #[] }] 1056 4 #[444, 48] #[{ accessFlags := 0, nameIndex := 17, descriptorIndex := 14, attributes := #[] }, { accessFlags := 0, nameIndex := 24, descriptorIndex := 25, attributes := #[] }, { accessFlags := 0, nameIndex := 75, descriptorIndex := 21, attributes := #[] }, { accessFlags := 0, nameIndex := 81, descriptorIndex := 82, attributes := #[] }, { accessFlags := 26, nameIndex := 13, descriptorIndex := 14, attributes := #[] }])
  fields := #[{ name := "value", type := (.array .byte), accessFlags := 0, slot := 0, constantValue := 0 }, { name := "coder", type := .byte, accessFlags := 0, slot := 1, constantValue := 0 }, { name := "maybeLatin1", type := .boolean, accessFlags := 0, slot := 2, constantValue := 0 }, { name := "count", type := .int, accessFlags := 0, slot := 3, constantValue := 0 }, { name := "EMPTYVALUE", type := (.array .byte), accessFlags := 26, slot := 0, constantValue := 0 }]
  methods := #[k17m0, k17m1, k17m2, k17m3, k17m4, k17m5, k17m6, k17m7, k17m8, k17m9, k17m10, k17m11]
  instanceTypes := #[(.array .byte), .byte, .boolean, .int]
  staticTypes := #[(.array .byte)]
  resolved := Array.replicate 609 none
  statics := none }

def pool18 : Array CpInfo := pool [(1, .methodref 2 3), (0, .class_ 4), (0, .nameAndType 5 6), (0, u "java/lang/AbstractStringBuilder"), (0, u "<init>"), (0, u "(I)V"), (11, .class_ 20), (1, u "java/lang/String"), (3, .class_ 26), (1, u "java/lang/StringBuilder"), (0, u "append"), (0, u "(Ljava/lang/String;)Ljava/lang/StringBuilder;"), (0, .methodref 2 30), (0, .nameAndType 27 31), (0, u "(Ljava/lang/String;)Ljava/lang/AbstractStringBuilder;"), (6, .methodref 2 39), (0, .nameAndType 27 40), (0, u "(Ljava/lang/CharSequence;II)Ljava/lang/AbstractStringBuilder;"), (9, .methodref 2 51), (0, .nameAndType 27 52), (0, u "(C)Ljava/lang/AbstractStringBuilder;"), (84, .methodref 18 138), (0, .nameAndType 5 139), (0, u "(Ljava/lang/StringBuilder;)V"), (5, u "()V"), (10, u "()I"), (129, u "(C)Ljava/lang/StringBuilder;"), (11, u "(Ljava/lang/CharSequence;II)Ljava/lang/StringBuilder;"), (44, .methodref 2 344), (0, .nameAndType 345 156), (0, u "length"), (3, .class_ 350), (0, u "java/lang/Appendable"), (0, .class_ 352), (0, u "java/io/Serializable"), (0, .class_ 354), (0, u "java/lang/Comparable"), (0, .class_ 356), (0, u "java/lang/CharSequence"), (0, u "serialVersionUID"), (0, u "J"), (40, u "toString"), (0, u "()Ljava/lang/String;")] 21

def k18c0 : Code := { maxStack := 2, maxLocals := 1, code := jdk_67_method_1_code, exceptionTable := #[], attributes := #[] }
def k18m0 : Method := { name := "<init>", desc := "()V", sig := { parameters := [], returnType := none }, accessFlags := 1, code := some k18c0 }
def k18c1 : Code := { maxStack := 2, maxLocals := 2, code := jdk_67_method_2_code, exceptionTable := #[], attributes := #[] }
def k18m1 : Method := { name := "<init>", desc := "(I)V", sig := { parameters := [.int], returnType := none }, accessFlags := 1, code := some k18c1 }
def k18c2 : Code := { maxStack := 2, maxLocals := 2, code := jdk_67_method_7_code, exceptionTable := #[], attributes := #[] }
def k18m2 : Method := { name := "append", desc := "(Ljava/lang/String;)Ljava/lang/StringBuilder;", sig := { parameters := [(.object "java/lang/String")], returnType := some (.object "java/lang/StringBuilder") }, accessFlags := 1, code := some k18c2 }
def k18c3 : Code := { maxStack := 4, maxLocals := 4, code := jdk_67_method_10_code, exceptionTable := #[], attributes := #[] }
def k18m3 : Method := { name := "append", desc := "(Ljava/lang/CharSequence;II)Ljava/lang/StringBuilder;", sig := { parameters := [(.object "java/lang/CharSequence"), .int, .int], returnType := some (.object "java/lang/StringBuilder") }, accessFlags := 1, code := some k18c3 }
def k18c4 : Code := { maxStack := 2, maxLocals := 2, code := jdk_67_method_14_code, exceptionTable := #[], attributes := #[] }
def k18m4 : Method := { name := "append", desc := "(C)Ljava/lang/StringBuilder;", sig := { parameters := [.char], returnType := some (.object "java/lang/StringBuilder") }, accessFlags := 1, code := some k18c4 }
def k18c5 : Code := { maxStack := 3, maxLocals := 1, code := jdk_67_method_42_code, exceptionTable := #[], attributes := #[] }
def k18m5 : Method := { name := "toString", desc := "()Ljava/lang/String;", sig := { parameters := [], returnType := some (.object "java/lang/String") }, accessFlags := 1, code := some k18c5 }
def k18c6 : Code := { maxStack := 1, maxLocals := 1, code := jdk_67_method_93_code, exceptionTable := #[], attributes := #[] }
def k18m6 : Method := { name := "length", desc := "()I", sig := { parameters := [], returnType := some .int }, accessFlags := 4161, code := some k18c6 }
def k18 : Class := { plain "java/lang/StringBuilder" (some 17) with
  accessFlags := 49
  interfaces := #[16, 2, 3, 4]
  cf := some (fileOf pool18 24 #[] #[{ accessFlags := 1, nameIndex := 5, descriptorIndex := 145, attributes := #[] }, { accessFlags := 1, nameIndex := 5, descriptorIndex := 6, attributes := #[] }, { accessFlags := 1, nameIndex := 27, descriptorIndex := 28, attributes := #[] }, { accessFlags := 1, nameIndex := 27, descriptorIndex := 298, attributes := #[] }, { accessFlags := 1, nameIndex := 27, descriptorIndex := 286, attributes := #[] }, { accessFlags := 1, nameIndex := 399, descriptorIndex := 400, attributes := #[] }, { accessFlags := 4161, nameIndex := 345, descriptorIndex := 156, attributes := #[] }] 49 2 #[349, 351, 353, 355] #[{ accessFlags := 24, nameIndex := 357, descriptorIndex := 358, attributes := #[] }])
  fields := #[{ name := "serialVersionUID", type := .long, accessFlags := 24, slot := 0, constantValue := 0 }]
  methods := #[k18m0, k18m1, k18m2, k18m3, k18m4, k18m5, k18m6]
  instanceTypes := #[(.array .byte), .byte, .boolean, .int]
  staticTypes := #[.long]
  resolved := Array.replicate 422 none
  statics := none }

def pool19 : Array CpInfo := pool [(9, u "<init>"), (6, .class_ 18), (1, u "java/lang/Object"), (0, u "()V"), (1, .class_ 23), (1, u "jdk/internal/util/ArraysSupport"), (0, u "LOG2_ARRAY_LONG_INDEX_SCALE"), (0, u "I"), (2, u "U"), (0, u "Ljdk/internal/misc/Unsafe;"), (8, u "BIG_ENDIAN"), (0, u "Z"), (8, u "LOG2_BYTE_BIT_SIZE"), (4, u "LOG2_ARRAY_INT_INDEX_SCALE"), (54, u "JLA"), (0, u "Ljdk/internal/access/JavaLangAccess;"), (11, u "LOG2_ARRAY_BOOLEAN_INDEX_SCALE"), (9, u "LOG2_ARRAY_BYTE_INDEX_SCALE"), (5, u "LOG2_ARRAY_CHAR_INDEX_SCALE"), (5, u "LOG2_ARRAY_SHORT_INDEX_SCALE"), (5, u "mismatch"), (12, u "LOG2_ARRAY_FLOAT_INDEX_SCALE"), (24, u "LOG2_ARRAY_DOUBLE_INDEX_SCALE"), (89, u "T_BOOLEAN"), (2, u "T_CHAR"), (1, u "T_FLOAT"), (1, u "T_DOUBLE"), (1, u "T_BYTE"), (1, u "T_SHORT"), (1, u "T_INT"), (1, u "T_LONG"), (1, u "SOFT_MAX_ARRAY_LENGTH"), (42, u "([BI[BII)I")] 40

def k19m0 : Method := { name := "<init>", desc := "()V", sig := { parameters := [], returnType := none }, accessFlags := 2, code := none }
def k19c1 : Code := { maxStack := 8, maxLocals := 8, code := jdk_48_method_14_code, exceptionTable := #[], attributes := #[] }
def k19m1 : Method := { name := "mismatch", desc := "([BI[BII)I", sig := { parameters := [(.array .byte), .int, (.array .byte), .int, .int], returnType := some .int }, accessFlags := 9, code := some k19c1 }
def k19 : Class := { plain "jdk/internal/util/ArraysSupport" (some 0) with
  accessFlags := 33
  interfaces := #[]
  cf := some (fileOf pool19 21 #[] #[{ accessFlags := 2, nameIndex := 9, descriptorIndex := 19, attributes := #[] }, { accessFlags := 9, nameIndex := 149, descriptorIndex := 337, attributes := #[] }] 33 16 #[] #[{ accessFlags := 24, nameIndex := 28, descriptorIndex := 29, attributes := #[] }, { accessFlags := 26, nameIndex := 38, descriptorIndex := 39, attributes := #[] }, { accessFlags := 25, nameIndex := 121, descriptorIndex := 25, attributes := #[] }, { accessFlags := 25, nameIndex := 131, descriptorIndex := 25, attributes := #[] }, { accessFlags := 25, nameIndex := 137, descriptorIndex := 25, attributes := #[] }, { accessFlags := 25, nameIndex := 143, descriptorIndex := 25, attributes := #[] }, { accessFlags := 25, nameIndex := 53, descriptorIndex := 25, attributes := #[] }, { accessFlags := 25, nameIndex := 24, descriptorIndex := 25, attributes := #[] }, { accessFlags := 25, nameIndex := 162, descriptorIndex := 25, attributes := #[] }, { accessFlags := 25, nameIndex := 187, descriptorIndex := 25, attributes := #[] }, { accessFlags := 26, nameIndex := 48, descriptorIndex := 25, attributes := #[] }, { accessFlags := 25, nameIndex := 277, descriptorIndex := 25, attributes := #[] }, { accessFlags := 25, nameIndex := 280, descriptorIndex := 25, attributes := #[] }, { accessFlags := 25, nameIndex := 282, descriptorIndex := 25, attributes := #[] }, { accessFlags := 25, nameIndex := 284, descriptorIndex := 25, attributes := #[] }, { accessFlags := 25, nameIndex := 286, descriptorIndex := 25, attributes := #[] }, { accessFlags := 25, nameIndex := 288, descriptorIndex := 25, attributes := #[] }, { accessFlags := 25, nameIndex := 290, descriptorIndex := 25, attributes := #[] }, { accessFlags := 25, nameIndex := 292, descriptorIndex := 25, attributes := #[] }, { accessFlags := 26, nameIndex := 108, descriptorIndex := 109, attributes := #[] }, { accessFlags := 25, nameIndex := 294, descriptorIndex := 25, attributes := #[] }])
  fields := #[{ name := "U", type := (.object "jdk/internal/misc/Unsafe"), accessFlags := 24, slot := 0, constantValue := 0 }, { name := "BIG_ENDIAN", type := .boolean, accessFlags := 26, slot := 1, constantValue := 0 }, { name := "LOG2_ARRAY_BOOLEAN_INDEX_SCALE", type := .int, accessFlags := 25, slot := 2, constantValue := 0 }, { name := "LOG2_ARRAY_BYTE_INDEX_SCALE", type := .int, accessFlags := 25, slot := 3, constantValue := 0 }, { name := "LOG2_ARRAY_CHAR_INDEX_SCALE", type := .int, accessFlags := 25, slot := 4, constantValue := 0 }, { name := "LOG2_ARRAY_SHORT_INDEX_SCALE", type := .int, accessFlags := 25, slot := 5, constantValue := 0 }, { name := "LOG2_ARRAY_INT_INDEX_SCALE", type := .int, accessFlags := 25, slot := 6, constantValue := 0 }, { name := "LOG2_ARRAY_LONG_INDEX_SCALE", type := .int, accessFlags := 25, slot := 7, constantValue := 0 }, { name := "LOG2_ARRAY_FLOAT_INDEX_SCALE", type := .int, accessFlags := 25, slot := 8, constantValue := 0 }, { name := "LOG2_ARRAY_DOUBLE_INDEX_SCALE", type := .int, accessFlags := 25, slot := 9, constantValue := 0 }, { name := "LOG2_BYTE_BIT_SIZE", type := .int, accessFlags := 26, slot := 10, constantValue := 0 }, { name := "T_BOOLEAN", type := .int, accessFlags := 25, slot := 11, constantValue := 0 }, { name := "T_CHAR", type := .int, accessFlags := 25, slot := 12, constantValue := 0 }, { name := "T_FLOAT", type := .int, accessFlags := 25, slot := 13, constantValue := 0 }, { name := "T_DOUBLE", type := .int, accessFlags := 25, slot := 14, constantValue := 0 }, { name := "T_BYTE", type := .int, accessFlags := 25, slot := 15, constantValue := 0 }, { name := "T_SHORT", type := .int, accessFlags := 25, slot := 16, constantValue := 0 }, { name := "T_INT", type := .int, accessFlags := 25, slot := 17, constantValue := 0 }, { name := "T_LONG", type := .int, accessFlags := 25, slot := 18, constantValue := 0 }, { name := "JLA", type := (.object "jdk/internal/access/JavaLangAccess"), accessFlags := 26, slot := 19, constantValue := 0 }, { name := "SOFT_MAX_ARRAY_LENGTH", type := .int, accessFlags := 25, slot := 20, constantValue := 0 }]
  methods := #[k19m0, k19m1]
  instanceTypes := #[]
  staticTypes := #[(.object "jdk/internal/misc/Unsafe"), .boolean, .int, .int, .int, .int, .int, .int, .int, .int, .int, .int, .int, .int, .int, .int, .int, .int, .int, (.object "jdk/internal/access/JavaLangAccess"), .int]
  resolved := Array.replicate 378 none
  statics := none }

def pool20 : Array CpInfo := pool [(1, .class_ 2), (0, u "java/lang/Cloneable"), (0, .class_ 4), (0, u "java/lang/Object")] 2

def k20 : Class := { plain "java/lang/Cloneable" (some 0) with
  accessFlags := 1537
  interfaces := #[]
  cf := some (fileOf pool20 1 #[] #[] 1537 3 #[] #[])
  fields := #[]
  methods := #[]
  instanceTypes := #[]
  staticTypes := #[]
  resolved := Array.replicate 7 none
  statics := none }

def k21 : Class := { plain "byte" none with kind := .primitive 'B', accessFlags := 0x411 }
def k22 : Class := { plain "[B" (some 0) with kind := .array 21 .byte, interfaces := #[20, 2], accessFlags := 1041 }

def k23 : Class := { plain "char" none with kind := .primitive 'C', accessFlags := 0x411 }
def k24 : Class := { plain "[C" (some 0) with kind := .array 23 .char, interfaces := #[20, 2], accessFlags := 1041 }

def k25 : Class := { plain "int" none with kind := .primitive 'I', accessFlags := 0x411 }
def k26 : Class := { plain "[I" (some 0) with kind := .array 25 .int, interfaces := #[20, 2], accessFlags := 1041 }

def heap : Heap := #[{ cls := 7, slots := #[.long 0, .int 1, .null, .int 0, .null, .int 0, .int 0], vm := .statics 7 },
  { cls := 13, slots := #[.null, .null, .null], vm := .statics 13 }]
def classes : Array Class := #[k0, k1, k2, k3, k4, k5, k6, k7, k8, k9, k10, k11, k12, k13, k14, k15, k16, k17, k18, k19, k20, k21, k22, k23, k24, k25, k26]
def interned : List (Array UInt16 × Addr) := []
def slotsUsed : Nat := 10
def theMethod : MethodId := ⟨1, 4⟩
def args0 : Array Value := #[.int 5, .int 6, .int 7]
def aboutOver (below : List Frame) : State where
  vm := { classes := classes, interned := interned.toArray }
  heap := heap
  slotsUsed := slotsUsed
  threads := #[{ frames := .invoking theMethod args0 :: below }]
def below0 : List Frame := [.native { method := ⟨0, 0⟩, args := #[] }]
def about1 : State := aboutOver below0
def p0 : Program := .bare "" "" ""
def e0 : Env := launch0.env 0 0 0
theorem w_frames : about1.frames = Frame.invoking theMethod args0 :: below0 := rfl
theorem w_args : argsFit about1.vm theMethod args0 = true := by decide +kernel
theorem w_heap : heapFits about1 = true := by decide +kernel
theorem w_runnable : about1.curStatus? = some .runnable := by decide +kernel
theorem w_alone : about1.alone = true := by decide +kernel
theorem w_named : about1.methodNamed? x = some theMethod := by decide +kernel
theorem w_hears : about1.hears theMethod below0 = true := by decide +kernel
theorem w_ripe : about1.ripe theMethod args0 below0 = true := by decide +kernel
theorem w_running : about1.status = .running := rfl
theorem w_room : about1.hasRoom e0.platform room_1 = true :=
  launch0.hasRoom_least _ room_1 (by decide +kernel) (by decide +kernel) (by decide +kernel) (by decide +kernel) (by decide +kernel) (by decide +kernel)
theorem allAtoms_all (ts : List Jvm.Cond) (a : Array Jvm.Value) (st : Jvm.State) : (allAtoms ts).before a st = ts.all (fun c => c.before a st) := by
  induction ts with
  | nil => rfl
  | cons c t ih =>
    show (Jvm.Cond.and c (allAtoms t)).before a st = _
    rw [Jvm.Cond.before_and, ih, List.all_cons]
def words1 : List Jvm.Cond := Jvm.Cond.code x code maxLocals ret :: tables_1
theorem code_word {y : MethodName} {bytes : ByteArray} {mx : Nat} {rt : Option FieldType} {a : Array Value} {s : State} {m : MethodId} {meth : Method} {c : Code} (h1 : s.methodNamed? y = some m) (h2 : s.vm.method? m = some meth) (h3 : meth.code = some c) (h4 : c.code = bytes)
    (h5 : (c.maxLocals == mx && c.exceptionTable.isEmpty && decide (c.maxStack ≤ mostOperands) && decide (meth.sig.returnType = rt) && !meth.locks && decide (parseMethodDescriptor y.desc = some meth.sig)) = true) : (Jvm.Cond.code y bytes mx rt).before a s = true := by
  simp only [Bool.and_eq_true, beq_iff_eq, Bool.not_eq_true', decide_eq_true_eq] at h5
  obtain ⟨⟨⟨⟨⟨g1, g2⟩, g3⟩, g4⟩, g5⟩, g6⟩ := h5
  simp [Cond.before, Cond.holds, Cond.value, h1, h2, h3, h4, g1, g2, g3, g4, g5, g6]
def isCode : Jvm.Cond → Bool
  | .code _ _ _ _ => true
  | _ => false
theorem all_split {L : List Jvm.Cond} {P : Jvm.Cond → Bool} (h1 : L.all (fun c => isCode c || P c) = true) (h2 : ∀ c ∈ L.filter isCode, P c = true) : L.all P = true := by
  refine List.all_eq_true.mpr fun c hc => ?_
  have h := List.all_eq_true.mp h1 c hc
  rcases Bool.eq_false_or_eq_true (isCode c) with hi | hi
  · exact h2 c (List.mem_filter.mpr ⟨hc, hi⟩)
  · simpa [hi] using h
abbrev CW (y : MethodName) (b : ByteArray) (n : Nat) (r : Option FieldType) : Prop := (Jvm.Cond.code y b n r).before args0 about1 = true
theorem w_c0 : CW x code maxLocals ret := code_word (m := ⟨1, 4⟩) (meth := k1m4) (c := k1c4) (by decide +kernel) rfl rfl rfl (by decide +kernel)
theorem w_c1 : CW ⟨"com/example/quadrille/quadrille/rdf/BaseIriOfPinLaw", "pick", "(I)C"⟩ method_2_code 2 (some .char) := code_word (m := ⟨1, 1⟩) (meth := k1m1) (c := k1c1) (by decide +kernel) rfl rfl rfl (by decide +kernel)
theorem w_c2 : CW ⟨"com/example/quadrille/quadrille/rdf/BaseIriOfPinLaw", "idxFrom", "([CCI)I"⟩ method_3_code 3 (some .int) := code_word (m := ⟨1, 2⟩) (meth := k1m2) (c := k1c2) (by decide +kernel) rfl rfl rfl (by decide +kernel)
theorem w_c3 : CW ⟨"java/lang/String", "<init>", "([C)V"⟩ jdk_42_method_3_code 2 none := code_word (m := ⟨7, 1⟩) (meth := k7m1) (c := k7c1) (by decide +kernel) rfl rfl rfl (by decide +kernel)
theorem w_c4 : CW ⟨"java/lang/String", "<init>", "([CIILjava/lang/Void;)V"⟩ jdk_42_method_149_code 6 none := code_word (m := ⟨7, 13⟩) (meth := k7m13) (c := k7c13) (by decide +kernel) rfl rfl rfl (by decide +kernel)
theorem w_c5 : CW ⟨"java/lang/Object", "<init>", "()V"⟩ object_method_1_code 1 none := code_word (m := ⟨0, 0⟩) (meth := k0m0) (c := k0c0) (by decide +kernel) rfl rfl rfl (by decide +kernel)
theorem w_c6 : CW ⟨"java/lang/StringUTF16", "compress", "([CII)[B"⟩ jdk_52_method_16_code 6 (some (.array .byte)) := code_word (m := ⟨8, 2⟩) (meth := k8m2) (c := k8c2) (by decide +kernel) rfl rfl rfl (by decide +kernel)
theorem w_c7 : CW ⟨"java/lang/StringUTF16", "compress", "([CI[BII)I"⟩ jdk_52_method_21_code 7 (some .int) := code_word (m := ⟨8, 3⟩) (meth := k8m3) (c := k8c3) (by decide +kernel) rfl rfl rfl (by decide +kernel)
theorem w_c8 : CW ⟨"java/lang/StringUTF16", "coderFromArrayLen", "([BI)B"⟩ jdk_52_method_15_code 2 (some .byte) := code_word (m := ⟨8, 1⟩) (meth := k8m1) (c := k8c1) (by decide +kernel) rfl rfl rfl (by decide +kernel)
theorem w_c9 : CW ⟨"com/example/quadrille/quadrille/rdf/BaseIri", "of", "(Ljava/lang/String;)Lcom/example/quadrille/quadrille/rdf/BaseIri;"⟩ prog_3_method_2_code 2 (some (.object "com/example/quadrille/quadrille/rdf/BaseIri")) := code_word (m := ⟨9, 1⟩) (meth := k9m1) (c := k9c1) (by decide +kernel) rfl rfl rfl (by decide +kernel)
theorem w_c10 : CW ⟨"com/example/quadrille/quadrille/rdf/BaseIri$Components", "of", "(Ljava/lang/String;)Lcom/example/quadrille/quadrille/rdf/BaseIri$Components;"⟩ prog_4_method_2_code 11 (some (.object "com/example/quadrille/quadrille/rdf/BaseIri$Components")) := code_word (m := ⟨10, 1⟩) (meth := k10m1) (c := k10c1) (by decide +kernel) rfl rfl rfl (by decide +kernel)
theorem w_c11 : CW ⟨"java/lang/String", "indexOf", "(I)I"⟩ jdk_42_method_79_code 2 (some .int) := code_word (m := ⟨7, 8⟩) (meth := k7m8) (c := k7c8) (by decide +kernel) rfl rfl rfl (by decide +kernel)
theorem w_c12 : CW ⟨"java/lang/String", "indexOf", "(II)I"⟩ jdk_42_method_80_code 3 (some .int) := code_word (m := ⟨7, 9⟩) (meth := k7m9) (c := k7c9) (by decide +kernel) rfl rfl rfl (by decide +kernel)
theorem w_c13 : CW ⟨"java/lang/String", "isLatin1", "()Z"⟩ jdk_42_method_154_code 1 (some .boolean) := code_word (m := ⟨7, 18⟩) (meth := k7m18) (c := k7c18) (by decide +kernel) rfl rfl rfl (by decide +kernel)
theorem w_c14 : CW ⟨"java/lang/String", "length", "()I"⟩ jdk_42_method_54_code 1 (some .int) := code_word (m := ⟨7, 3⟩) (meth := k7m3) (c := k7c3) (by decide +kernel) rfl rfl rfl (by decide +kernel)
theorem w_c15 : CW ⟨"java/lang/String", "coder", "()B"⟩ jdk_42_method_152_code 1 (some .byte) := code_word (m := ⟨7, 16⟩) (meth := k7m16) (c := k7c16) (by decide +kernel) rfl rfl rfl (by decide +kernel)
theorem w_c16 : CW ⟨"java/lang/StringLatin1", "indexOf", "([BIII)I"⟩ jdk_43_method_22_code 4 (some .int) := code_word (m := ⟨11, 4⟩) (meth := k11m4) (c := k11c4) (by decide +kernel) rfl rfl rfl (by decide +kernel)
theorem w_c17 : CW ⟨"java/lang/StringLatin1", "canEncode", "(I)Z"⟩ jdk_43_method_4_code 1 (some .boolean) := code_word (m := ⟨11, 3⟩) (meth := k11m3) (c := k11c3) (by decide +kernel) rfl rfl rfl (by decide +kernel)
theorem w_c18 : CW ⟨"java/lang/Math", "max", "(II)I"⟩ jdk_29_method_65_code 2 (some .int) := code_word (m := ⟨12, 1⟩) (meth := k12m1) (c := k12c1) (by decide +kernel) rfl rfl rfl (by decide +kernel)
theorem w_c19 : CW ⟨"java/lang/Math", "min", "(II)I"⟩ jdk_29_method_69_code 2 (some .int) := code_word (m := ⟨12, 2⟩) (meth := k12m2) (c := k12c2) (by decide +kernel) rfl rfl rfl (by decide +kernel)
theorem w_c20 : CW ⟨"java/lang/StringLatin1", "indexOfChar", "([BIII)I"⟩ jdk_43_method_23_code 6 (some .int) := code_word (m := ⟨11, 5⟩) (meth := k11m5) (c := k11c5) (by decide +kernel) rfl rfl rfl (by decide +kernel)
theorem w_c21 : CW ⟨"java/lang/String", "charAt", "(I)C"⟩ jdk_42_method_56_code 2 (some .char) := code_word (m := ⟨7, 5⟩) (meth := k7m5) (c := k7c5) (by decide +kernel) rfl rfl rfl (by decide +kernel)
theorem w_c22 : CW ⟨"java/lang/StringLatin1", "charAt", "([BI)C"⟩ jdk_43_method_2_code 2 (some .char) := code_word (m := ⟨11, 1⟩) (meth := k11m1) (c := k11c1) (by decide +kernel) rfl rfl rfl (by decide +kernel)
theorem w_c23 : CW ⟨"java/lang/String", "checkIndex", "(II)V"⟩ jdk_42_method_155_code 2 none := code_word (m := ⟨7, 19⟩) (meth := k7m19) (c := k7c19) (by decide +kernel) rfl rfl rfl (by decide +kernel)
theorem w_c24 : CW ⟨"jdk/internal/util/Preconditions", "checkIndex", "(IILjava/util/function/BiFunction;)I"⟩ jdk_41_method_11_code 3 (some .int) := code_word (m := ⟨13, 1⟩) (meth := k13m1) (c := k13c1) (by decide +kernel) rfl rfl rfl (by decide +kernel)
theorem w_c25 : CW ⟨"java/lang/String", "startsWith", "(Ljava/lang/String;I)Z"⟩ jdk_42_method_75_code 8 (some .boolean) := code_word (m := ⟨7, 6⟩) (meth := k7m6) (c := k7c6) (by decide +kernel) rfl rfl rfl (by decide +kernel)
theorem w_c26 : CW ⟨"java/lang/String", "substring", "(II)Ljava/lang/String;"⟩ jdk_42_method_92_code 5 (some (.object "java/lang/String")) := code_word (m := ⟨7, 11⟩) (meth := k7m11) (c := k7c11) (by decide +kernel) rfl rfl rfl (by decide +kernel)
theorem w_c27 : CW ⟨"java/lang/String", "checkBoundsBeginEnd", "(III)V"⟩ jdk_42_method_158_code 3 none := code_word (m := ⟨7, 20⟩) (meth := k7m20) (c := k7c20) (by decide +kernel) rfl rfl rfl (by decide +kernel)
theorem w_c28 : CW ⟨"jdk/internal/util/Preconditions", "checkFromToIndex", "(IIILjava/util/function/BiFunction;)I"⟩ jdk_41_method_12_code 4 (some .int) := code_word (m := ⟨13, 2⟩) (meth := k13m2) (c := k13c2) (by decide +kernel) rfl rfl rfl (by decide +kernel)
theorem w_c29 : CW ⟨"java/lang/StringLatin1", "newString", "([BII)Ljava/lang/String;"⟩ jdk_43_method_47_code 3 (some (.object "java/lang/String")) := code_word (m := ⟨11, 6⟩) (meth := k11m6) (c := k11c6) (by decide +kernel) rfl rfl rfl (by decide +kernel)
theorem w_c30 : CW ⟨"java/util/Arrays", "copyOfRange", "([BII)[B"⟩ jdk_65_method_132_code 3 (some (.array .byte)) := code_word (m := ⟨14, 2⟩) (meth := k14m2) (c := k14c2) (by decide +kernel) rfl rfl rfl (by decide +kernel)
theorem w_c31 : CW ⟨"java/util/Arrays", "copyOfRangeByte", "([BII)[B"⟩ jdk_65_method_133_code 5 (some (.array .byte)) := code_word (m := ⟨14, 3⟩) (meth := k14m3) (c := k14c3) (by decide +kernel) rfl rfl rfl (by decide +kernel)
theorem w_c32 : CW ⟨"java/util/Arrays", "checkLength", "(II)V"⟩ jdk_65_method_131_code 2 none := code_word (m := ⟨14, 1⟩) (meth := k14m1) (c := k14c1) (by decide +kernel) rfl rfl rfl (by decide +kernel)
theorem w_c33 : CW ⟨"java/lang/String", "<init>", "([BB)V"⟩ jdk_42_method_151_code 3 none := code_word (m := ⟨7, 15⟩) (meth := k7m15) (c := k7c15) (by decide +kernel) rfl rfl rfl (by decide +kernel)
theorem w_c34 : CW ⟨"com/example/quadrille/quadrille/rdf/BaseIri$Components", "<init>", "(Ljava/lang/String;Ljava/lang/String;Ljava/lang/String;Ljava/lang/String;Ljava/lang/String;)V"⟩ prog_4_method_1_code 6 none := code_word (m := ⟨10, 0⟩) (meth := k10m0) (c := k10c0) (by decide +kernel) rfl rfl rfl (by decide +kernel)
theorem w_c35 : CW ⟨"com/example/quadrille/quadrille/rdf/BaseIri", "<init>", "(Ljava/lang/String;Lcom/example/quadrille/quadrille/rdf/BaseIri$Components;)V"⟩ prog_3_method_1_code 3 none := code_word (m := ⟨9, 0⟩) (meth := k9m0) (c := k9c0) (by decide +kernel) rfl rfl rfl (by decide +kernel)
theorem w_c36 : CW ⟨"com/example/quadrille/quadrille/rdf/BaseIri", "resolve", "(Ljava/lang/String;)Ljava/lang/String;"⟩ prog_3_method_3_code 5 (some (.object "java/lang/String")) := code_word (m := ⟨9, 2⟩) (meth := k9m2) (c := k9c2) (by decide +kernel) rfl rfl rfl (by decide +kernel)
theorem w_c37 : CW ⟨"com/example/quadrille/quadrille/rdf/BaseIri", "target", "(Lcom/example/quadrille/quadrille/rdf/BaseIri$Components;)Lcom/example/quadrille/quadrille/rdf/BaseIri$Components;"⟩ prog_3_method_4_code 5 (some (.object "com/example/quadrille/quadrille/rdf/BaseIri$Components")) := code_word (m := ⟨9, 3⟩) (meth := k9m3) (c := k9c3) (by decide +kernel) rfl rfl rfl (by decide +kernel)
theorem w_c38 : CW ⟨"java/lang/String", "isEmpty", "()Z"⟩ jdk_42_method_55_code 1 (some .boolean) := code_word (m := ⟨7, 4⟩) (meth := k7m4) (c := k7c4) (by decide +kernel) rfl rfl rfl (by decide +kernel)
theorem w_c39 : CW ⟨"java/lang/String", "startsWith", "(Ljava/lang/String;)Z"⟩ jdk_42_method_76_code 2 (some .boolean) := code_word (m := ⟨7, 7⟩) (meth := k7m7) (c := k7c7) (by decide +kernel) rfl rfl rfl (by decide +kernel)
theorem w_c40 : CW ⟨"com/example/quadrille/quadrille/rdf/BaseIri$Components", "toString", "()Ljava/lang/String;"⟩ prog_4_method_3_code 2 (some (.object "java/lang/String")) := code_word (m := ⟨10, 2⟩) (meth := k10m2) (c := k10c2) (by decide +kernel) rfl rfl rfl (by decide +kernel)
theorem w_c41 : CW ⟨"java/lang/StringBuilder", "<init>", "()V"⟩ jdk_67_method_1_code 1 none := code_word (m := ⟨18, 0⟩) (meth := k18m0) (c := k18c0) (by decide +kernel) rfl rfl rfl (by decide +kernel)
theorem w_c42 : CW ⟨"java/lang/AbstractStringBuilder", "<init>", "(I)V"⟩ jdk_68_method_2_code 2 none := code_word (m := ⟨17, 1⟩) (meth := k17m1) (c := k17c1) (by decide +kernel) rfl rfl rfl (by decide +kernel)
theorem w_c43 : CW ⟨"java/lang/StringBuilder", "append", "(Ljava/lang/String;)Ljava/lang/StringBuilder;"⟩ jdk_67_method_7_code 2 (some (.object "java/lang/StringBuilder")) := code_word (m := ⟨18, 2⟩) (meth := k18m2) (c := k18c2) (by decide +kernel) rfl rfl rfl (by decide +kernel)
theorem w_c44 : CW ⟨"java/lang/AbstractStringBuilder", "append", "(Ljava/lang/String;)Ljava/lang/AbstractStringBuilder;"⟩ jdk_68_method_22_code 3 (some (.object "java/lang/AbstractStringBuilder")) := code_word (m := ⟨17, 4⟩) (meth := k17m4) (c := k17c4) (by decide +kernel) rfl rfl rfl (by decide +kernel)
theorem w_c45 : CW ⟨"java/lang/AbstractStringBuilder", "ensureCapacityInternal", "(I)V"⟩ jdk_68_method_9_code 3 none := code_word (m := ⟨17, 3⟩) (meth := k17m3) (c := k17c3) (by decide +kernel) rfl rfl rfl (by decide +kernel)
theorem w_c46 : CW ⟨"java/lang/AbstractStringBuilder", "putStringAt", "(ILjava/lang/String;)V"⟩ jdk_68_method_73_code 3 none := code_word (m := ⟨17, 10⟩) (meth := k17m10) (c := k17c10) (by decide +kernel) rfl rfl rfl (by decide +kernel)
theorem w_c47 : CW ⟨"java/lang/AbstractStringBuilder", "inflateIfNeededFor", "(Ljava/lang/String;)V"⟩ jdk_68_method_71_code 2 none := code_word (m := ⟨17, 9⟩) (meth := k17m9) (c := k17c9) (by decide +kernel) rfl rfl rfl (by decide +kernel)
theorem w_c48 : CW ⟨"java/lang/String", "getBytes", "([BIB)V"⟩ jdk_42_method_147_code 4 none := code_word (m := ⟨7, 12⟩) (meth := k7m12) (c := k7c12) (by decide +kernel) rfl rfl rfl (by decide +kernel)
theorem w_c49 : CW ⟨"java/lang/StringBuilder", "append", "(C)Ljava/lang/StringBuilder;"⟩ jdk_67_method_14_code 2 (some (.object "java/lang/StringBuilder")) := code_word (m := ⟨18, 4⟩) (meth := k18m4) (c := k18c4) (by decide +kernel) rfl rfl rfl (by decide +kernel)
theorem w_c50 : CW ⟨"java/lang/AbstractStringBuilder", "append", "(C)Ljava/lang/AbstractStringBuilder;"⟩ jdk_68_method_31_code 2 (some (.object "java/lang/AbstractStringBuilder")) := code_word (m := ⟨17, 6⟩) (meth := k17m6) (c := k17c6) (by decide +kernel) rfl rfl rfl (by decide +kernel)
theorem w_c51 : CW ⟨"java/lang/AbstractStringBuilder", "isLatin1", "()Z"⟩ jdk_68_method_68_code 1 (some .boolean) := code_word (m := ⟨17, 8⟩) (meth := k17m8) (c := k17c8) (by decide +kernel) rfl rfl rfl (by decide +kernel)
theorem w_c52 : CW ⟨"java/lang/StringLatin1", "canEncode", "(C)Z"⟩ jdk_43_method_3_code 1 (some .boolean) := code_word (m := ⟨11, 2⟩) (meth := k11m2) (c := k11c2) (by decide +kernel) rfl rfl rfl (by decide +kernel)
theorem w_c53 : CW ⟨"java/lang/StringBuilder", "toString", "()Ljava/lang/String;"⟩ jdk_67_method_42_code 1 (some (.object "java/lang/String")) := code_word (m := ⟨18, 5⟩) (meth := k18m5) (c := k18c5) (by decide +kernel) rfl rfl rfl (by decide +kernel)
theorem w_c54 : CW ⟨"java/lang/String", "<init>", "(Ljava/lang/StringBuilder;)V"⟩ jdk_42_method_53_code 2 none := code_word (m := ⟨7, 2⟩) (meth := k7m2) (c := k7c2) (by decide +kernel) rfl rfl rfl (by decide +kernel)
theorem w_c55 : CW ⟨"java/lang/String", "<init>", "(Ljava/lang/AbstractStringBuilder;Ljava/lang/Void;)V"⟩ jdk_42_method_150_code 5 none := code_word (m := ⟨7, 14⟩) (meth := k7m14) (c := k7c14) (by decide +kernel) rfl rfl rfl (by decide +kernel)
theorem w_c56 : CW ⟨"java/lang/AbstractStringBuilder", "getValue", "()[B"⟩ jdk_68_method_64_code 1 (some (.array .byte)) := code_word (m := ⟨17, 7⟩) (meth := k17m7) (c := k17c7) (by decide +kernel) rfl rfl rfl (by decide +kernel)
theorem w_c57 : CW ⟨"java/lang/StringBuilder", "length", "()I"⟩ jdk_67_method_93_code 1 (some .int) := code_word (m := ⟨18, 6⟩) (meth := k18m6) (c := k18c6) (by decide +kernel) rfl rfl rfl (by decide +kernel)
theorem w_c58 : CW ⟨"java/lang/AbstractStringBuilder", "length", "()I"⟩ jdk_68_method_6_code 1 (some .int) := code_word (m := ⟨17, 2⟩) (meth := k17m2) (c := k17c2) (by decide +kernel) rfl rfl rfl (by decide +kernel)
theorem w_c59 : CW ⟨"jdk/internal/util/ArraysSupport", "mismatch", "([BI[BII)I"⟩ jdk_48_method_14_code 8 (some .int) := code_word (m := ⟨19, 1⟩) (meth := k19m1) (c := k19c1) (by decide +kernel) rfl rfl rfl (by decide +kernel)
theorem w_c60 : CW ⟨"com/example/quadrille/quadrille/rdf/BaseIri", "removeDotSegments", "(Ljava/lang/String;)Ljava/lang/String;"⟩ prog_3_method_6_code 6 (some (.object "java/lang/String")) := code_word (m := ⟨9, 4⟩) (meth := k9m4) (c := k9c4) (by decide +kernel) rfl rfl rfl (by decide +kernel)
theorem w_c61 : CW ⟨"java/lang/StringBuilder", "<init>", "(I)V"⟩ jdk_67_method_2_code 2 none := code_word (m := ⟨18, 1⟩) (meth := k18m1) (c := k18c1) (by decide +kernel) rfl rfl rfl (by decide +kernel)
theorem w_c62 : CW ⟨"java/lang/StringBuilder", "append", "(Ljava/lang/CharSequence;II)Ljava/lang/StringBuilder;"⟩ jdk_67_method_10_code 4 (some (.object "java/lang/StringBuilder")) := code_word (m := ⟨18, 3⟩) (meth := k18m3) (c := k18c3) (by decide +kernel) rfl rfl rfl (by decide +kernel)
theorem w_c63 : CW ⟨"java/lang/AbstractStringBuilder", "append", "(Ljava/lang/CharSequence;II)Ljava/lang/AbstractStringBuilder;"⟩ jdk_68_method_27_code 5 (some (.object "java/lang/AbstractStringBuilder")) := code_word (m := ⟨17, 5⟩) (meth := k17m5) (c := k17c5) (by decide +kernel) rfl rfl rfl (by decide +kernel)
theorem w_c64 : CW ⟨"java/lang/AbstractStringBuilder", "appendChars", "(Ljava/lang/String;II)V"⟩ jdk_68_method_75_code 8 none := code_word (m := ⟨17, 11⟩) (meth := k17m11) (c := k17c11) (by decide +kernel) rfl rfl rfl (by decide +kernel)
theorem w_c65 : CW ⟨"java/lang/String", "value", "()[B"⟩ jdk_42_method_153_code 1 (some (.array .byte)) := code_word (m := ⟨7, 17⟩) (meth := k7m17) (c := k7c17) (by decide +kernel) rfl rfl rfl (by decide +kernel)
theorem w_c66 : CW ⟨"com/example/quadrille/quadrille/rdf/BaseIriOfPinLaw", "sameUpTo", "(Ljava/lang/String;[CI)Z"⟩ method_4_code 3 (some .boolean) := code_word (m := ⟨1, 3⟩) (meth := k1m3) (c := k1c3) (by decide +kernel) rfl rfl rfl (by decide +kernel)
theorem w_c67 : CW ⟨"java/lang/String", "substring", "(I)Ljava/lang/String;"⟩ jdk_42_method_91_code 2 (some (.object "java/lang/String")) := code_word (m := ⟨7, 10⟩) (meth := k7m10) (c := k7c10) (by decide +kernel) rfl rfl rfl (by decide +kernel)
def codes1 : List Jvm.Cond := [.code x code maxLocals ret, .code ⟨"com/example/quadrille/quadrille/rdf/BaseIriOfPinLaw", "pick", "(I)C"⟩ method_2_code 2 (some .char), .code ⟨"com/example/quadrille/quadrille/rdf/BaseIriOfPinLaw", "idxFrom", "([CCI)I"⟩ method_3_code 3 (some .int), .code ⟨"java/lang/String", "<init>", "([C)V"⟩ jdk_42_method_3_code 2 none, .code ⟨"java/lang/String", "<init>", "([CIILjava/lang/Void;)V"⟩ jdk_42_method_149_code 6 none, .code ⟨"java/lang/Object", "<init>", "()V"⟩ object_method_1_code 1 none, .code ⟨"java/lang/StringUTF16", "compress", "([CII)[B"⟩ jdk_52_method_16_code 6 (some (.array .byte)), .code ⟨"java/lang/StringUTF16", "compress", "([CI[BII)I"⟩ jdk_52_method_21_code 7 (some .int), .code ⟨"java/lang/StringUTF16", "coderFromArrayLen", "([BI)B"⟩ jdk_52_method_15_code 2 (some .byte), .code ⟨"com/example/quadrille/quadrille/rdf/BaseIri", "of", "(Ljava/lang/String;)Lcom/example/quadrille/quadrille/rdf/BaseIri;"⟩ prog_3_method_2_code 2 (some (.object "com/example/quadrille/quadrille/rdf/BaseIri")), .code ⟨"com/example/quadrille/quadrille/rdf/BaseIri$Components", "of", "(Ljava/lang/String;)Lcom/example/quadrille/quadrille/rdf/BaseIri$Components;"⟩ prog_4_method_2_code 11 (some (.object "com/example/quadrille/quadrille/rdf/BaseIri$Components")), .code ⟨"java/lang/String", "indexOf", "(I)I"⟩ jdk_42_method_79_code 2 (some .int), .code ⟨"java/lang/String", "indexOf", "(II)I"⟩ jdk_42_method_80_code 3 (some .int), .code ⟨"java/lang/String", "isLatin1", "()Z"⟩ jdk_42_method_154_code 1 (some .boolean), .code ⟨"java/lang/String", "length", "()I"⟩ jdk_42_method_54_code 1 (some .int), .code ⟨"java/lang/String", "coder", "()B"⟩ jdk_42_method_152_code 1 (some .byte), .code ⟨"java/lang/StringLatin1", "indexOf", "([BIII)I"⟩ jdk_43_method_22_code 4 (some .int), .code ⟨"java/lang/StringLatin1", "canEncode", "(I)Z"⟩ jdk_43_method_4_code 1 (some .boolean), .code ⟨"java/lang/Math", "max", "(II)I"⟩ jdk_29_method_65_code 2 (some .int), .code ⟨"java/lang/Math", "min", "(II)I"⟩ jdk_29_method_69_code 2 (some .int), .code ⟨"java/lang/StringLatin1", "indexOfChar", "([BIII)I"⟩ jdk_43_method_23_code 6 (some .int), .code ⟨"java/lang/String", "charAt", "(I)C"⟩ jdk_42_method_56_code 2 (some .char), .code ⟨"java/lang/StringLatin1", "charAt", "([BI)C"⟩ jdk_43_method_2_code 2 (some .char), .code ⟨"java/lang/String", "checkIndex", "(II)V"⟩ jdk_42_method_155_code 2 none, .code ⟨"jdk/internal/util/Preconditions", "checkIndex", "(IILjava/util/function/BiFunction;)I"⟩ jdk_41_method_11_code 3 (some .int), .code ⟨"java/lang/String", "startsWith", "(Ljava/lang/String;I)Z"⟩ jdk_42_method_75_code 8 (some .boolean), .code ⟨"java/lang/String", "substring", "(II)Ljava/lang/String;"⟩ jdk_42_method_92_code 5 (some (.object "java/lang/String")), .code ⟨"java/lang/String", "checkBoundsBeginEnd", "(III)V"⟩ jdk_42_method_158_code 3 none, .code ⟨"jdk/internal/util/Preconditions", "checkFromToIndex", "(IIILjava/util/function/BiFunction;)I"⟩ jdk_41_method_12_code 4 (some .int), .code ⟨"java/lang/StringLatin1", "newString", "([BII)Ljava/lang/String;"⟩ jdk_43_method_47_code 3 (some (.object "java/lang/String")), .code ⟨"java/util/Arrays", "copyOfRange", "([BII)[B"⟩ jdk_65_method_132_code 3 (some (.array .byte)), .code ⟨"java/util/Arrays", "copyOfRangeByte", "([BII)[B"⟩ jdk_65_method_133_code 5 (some (.array .byte)), .code ⟨"java/util/Arrays", "checkLength", "(II)V"⟩ jdk_65_method_131_code 2 none, .code ⟨"java/lang/String", "<init>", "([BB)V"⟩ jdk_42_method_151_code 3 none, .code ⟨"com/example/quadrille/quadrille/rdf/BaseIri$Components", "<init>", "(Ljava/lang/String;Ljava/lang/String;Ljava/lang/String;Ljava/lang/String;Ljava/lang/String;)V"⟩ prog_4_method_1_code 6 none, .code ⟨"com/example/quadrille/quadrille/rdf/BaseIri", "<init>", "(Ljava/lang/String;Lcom/example/quadrille/quadrille/rdf/BaseIri$Components;)V"⟩ prog_3_method_1_code 3 none, .code ⟨"com/example/quadrille/quadrille/rdf/BaseIri", "resolve", "(Ljava/lang/String;)Ljava/lang/String;"⟩ prog_3_method_3_code 5 (some (.object "java/lang/String")), .code ⟨"com/example/quadrille/quadrille/rdf/BaseIri", "target", "(Lcom/example/quadrille/quadrille/rdf/BaseIri$Components;)Lcom/example/quadrille/quadrille/rdf/BaseIri$Components;"⟩ prog_3_method_4_code 5 (some (.object "com/example/quadrille/quadrille/rdf/BaseIri$Components")), .code ⟨"java/lang/String", "isEmpty", "()Z"⟩ jdk_42_method_55_code 1 (some .boolean), .code ⟨"java/lang/String", "startsWith", "(Ljava/lang/String;)Z"⟩ jdk_42_method_76_code 2 (some .boolean), .code ⟨"com/example/quadrille/quadrille/rdf/BaseIri$Components", "toString", "()Ljava/lang/String;"⟩ prog_4_method_3_code 2 (some (.object "java/lang/String")), .code ⟨"java/lang/StringBuilder", "<init>", "()V"⟩ jdk_67_method_1_code 1 none, .code ⟨"java/lang/AbstractStringBuilder", "<init>", "(I)V"⟩ jdk_68_method_2_code 2 none, .code ⟨"java/lang/StringBuilder", "append", "(Ljava/lang/String;)Ljava/lang/StringBuilder;"⟩ jdk_67_method_7_code 2 (some (.object "java/lang/StringBuilder")), .code ⟨"java/lang/AbstractStringBuilder", "append", "(Ljava/lang/String;)Ljava/lang/AbstractStringBuilder;"⟩ jdk_68_method_22_code 3 (some (.object "java/lang/AbstractStringBuilder")), .code ⟨"java/lang/AbstractStringBuilder", "ensureCapacityInternal", "(I)V"⟩ jdk_68_method_9_code 3 none, .code ⟨"java/lang/AbstractStringBuilder", "putStringAt", "(ILjava/lang/String;)V"⟩ jdk_68_method_73_code 3 none, .code ⟨"java/lang/AbstractStringBuilder", "inflateIfNeededFor", "(Ljava/lang/String;)V"⟩ jdk_68_method_71_code 2 none, .code ⟨"java/lang/String", "getBytes", "([BIB)V"⟩ jdk_42_method_147_code 4 none, .code ⟨"java/lang/StringBuilder", "append", "(C)Ljava/lang/StringBuilder;"⟩ jdk_67_method_14_code 2 (some (.object "java/lang/StringBuilder")), .code ⟨"java/lang/AbstractStringBuilder", "append", "(C)Ljava/lang/AbstractStringBuilder;"⟩ jdk_68_method_31_code 2 (some (.object "java/lang/AbstractStringBuilder")), .code ⟨"java/lang/AbstractStringBuilder", "isLatin1", "()Z"⟩ jdk_68_method_68_code 1 (some .boolean), .code ⟨"java/lang/StringLatin1", "canEncode", "(C)Z"⟩ jdk_43_method_3_code 1 (some .boolean), .code ⟨"java/lang/StringBuilder", "toString", "()Ljava/lang/String;"⟩ jdk_67_method_42_code 1 (some (.object "java/lang/String")), .code ⟨"java/lang/String", "<init>", "(Ljava/lang/StringBuilder;)V"⟩ jdk_42_method_53_code 2 none, .code ⟨"java/lang/String", "<init>", "(Ljava/lang/AbstractStringBuilder;Ljava/lang/Void;)V"⟩ jdk_42_method_150_code 5 none, .code ⟨"java/lang/AbstractStringBuilder", "getValue", "()[B"⟩ jdk_68_method_64_code 1 (some (.array .byte)), .code ⟨"java/lang/StringBuilder", "length", "()I"⟩ jdk_67_method_93_code 1 (some .int), .code ⟨"java/lang/AbstractStringBuilder", "length", "()I"⟩ jdk_68_method_6_code 1 (some .int), .code ⟨"jdk/internal/util/ArraysSupport", "mismatch", "([BI[BII)I"⟩ jdk_48_method_14_code 8 (some .int), .code ⟨"com/example/quadrille/quadrille/rdf/BaseIri", "removeDotSegments", "(Ljava/lang/String;)Ljava/lang/String;"⟩ prog_3_method_6_code 6 (some (.object "java/lang/String")), .code ⟨"java/lang/StringBuilder", "<init>", "(I)V"⟩ jdk_67_method_2_code 2 none, .code ⟨"java/lang/StringBuilder", "append", "(Ljava/lang/CharSequence;II)Ljava/lang/StringBuilder;"⟩ jdk_67_method_10_code 4 (some (.object "java/lang/StringBuilder")), .code ⟨"java/lang/AbstractStringBuilder", "append", "(Ljava/lang/CharSequence;II)Ljava/lang/AbstractStringBuilder;"⟩ jdk_68_method_27_code 5 (some (.object "java/lang/AbstractStringBuilder")), .code ⟨"java/lang/AbstractStringBuilder", "appendChars", "(Ljava/lang/String;II)V"⟩ jdk_68_method_75_code 8 none, .code ⟨"java/lang/String", "value", "()[B"⟩ jdk_42_method_153_code 1 (some (.array .byte)), .code ⟨"com/example/quadrille/quadrille/rdf/BaseIriOfPinLaw", "sameUpTo", "(Ljava/lang/String;[CI)Z"⟩ method_4_code 3 (some .boolean), .code ⟨"java/lang/String", "substring", "(I)Ljava/lang/String;"⟩ jdk_42_method_91_code 2 (some (.object "java/lang/String"))]
theorem codes_eq : words1.filter isCode = codes1 := rfl
theorem w_codes : ∀ c ∈ words1.filter isCode, c.before args0 about1 = true := by
  rw [codes_eq]
  intro c hc
  simp only [codes1, List.mem_cons, List.not_mem_nil, or_false] at hc
  rcases hc with rfl | rfl | rfl | rfl | rfl | rfl | rfl | rfl | rfl | rfl | rfl | rfl | rfl | rfl | rfl | rfl | rfl | rfl | rfl | rfl | rfl | rfl | rfl | rfl | rfl | rfl | rfl | rfl | rfl | rfl | rfl | rfl | rfl | rfl | rfl | rfl | rfl | rfl | rfl | rfl | rfl | rfl | rfl | rfl | rfl | rfl | rfl | rfl | rfl | rfl | rfl | rfl | rfl | rfl | rfl | rfl | rfl | rfl | rfl | rfl | rfl | rfl | rfl | rfl | rfl | rfl | rfl | rfl
  · exact w_c0
  · exact w_c1
  · exact w_c2
  · exact w_c3
  · exact w_c4
  · exact w_c5
  · exact w_c6
  · exact w_c7
  · exact w_c8
  · exact w_c9
  · exact w_c10
  · exact w_c11
  · exact w_c12
  · exact w_c13
  · exact w_c14
  · exact w_c15
  · exact w_c16
  · exact w_c17
  · exact w_c18
  · exact w_c19
  · exact w_c20
  · exact w_c21
  · exact w_c22
  · exact w_c23
  · exact w_c24
  · exact w_c25
  · exact w_c26
  · exact w_c27
  · exact w_c28
  · exact w_c29
  · exact w_c30
  · exact w_c31
  · exact w_c32
  · exact w_c33
  · exact w_c34
  · exact w_c35
  · exact w_c36
  · exact w_c37
  · exact w_c38
  · exact w_c39
  · exact w_c40
  · exact w_c41
  · exact w_c42
  · exact w_c43
  · exact w_c44
  · exact w_c45
  · exact w_c46
  · exact w_c47
  · exact w_c48
  · exact w_c49
  · exact w_c50
  · exact w_c51
  · exact w_c52
  · exact w_c53
  · exact w_c54
  · exact w_c55
  · exact w_c56
  · exact w_c57
  · exact w_c58
  · exact w_c59
  · exact w_c60
  · exact w_c61
  · exact w_c62
  · exact w_c63
  · exact w_c64
  · exact w_c65
  · exact w_c66
  · exact w_c67
theorem w_t1 : (words1.take 24).all (fun c => isCode c || c.before args0 about1) = true := by decide +kernel
theorem w_t2 : ((words1.drop 24).take 24).all (fun c => isCode c || c.before args0 about1) = true := by decide +kernel
theorem w_t3 : (((words1.drop 24).drop 24).take 24).all (fun c => isCode c || c.before args0 about1) = true := by decide +kernel
theorem w_t4 : ((((words1.drop 24).drop 24).drop 24).take 24).all (fun c => isCode c || c.before args0 about1) = true := by decide +kernel
theorem w_t5 : (((((words1.drop 24).drop 24).drop 24).drop 24).take 24).all (fun c => isCode c || c.before args0 about1) = true := by decide +kernel
theorem w_t6 : ((((((words1.drop 24).drop 24).drop 24).drop 24).drop 24).take 24).all (fun c => isCode c || c.before args0 about1) = true := by decide +kernel
theorem w_t7 : (((((((words1.drop 24).drop 24).drop 24).drop 24).drop 24).drop 24).take 24).all (fun c => isCode c || c.before args0 about1) = true := by decide +kernel
theorem w_t8 : ((((((((words1.drop 24).drop 24).drop 24).drop 24).drop 24).drop 24).drop 24).take 24).all (fun c => isCode c || c.before args0 about1) = true := by decide +kernel
theorem w_t9 : (((((((((words1.drop 24).drop 24).drop 24).drop 24).drop 24).drop 24).drop 24).drop 24).take 24).all (fun c => isCode c || c.before args0 about1) = true := by decide +kernel
theorem w_t10 : ((((((((((words1.drop 24).drop 24).drop 24).drop 24).drop 24).drop 24).drop 24).drop 24).drop 24).take 24).all (fun c => isCode c || c.before args0 about1) = true := by decide +kernel
theorem w_t11 : (((((((((((words1.drop 24).drop 24).drop 24).drop 24).drop 24).drop 24).drop 24).drop 24).drop 24).drop 24).take 24).all (fun c => isCode c || c.before args0 about1) = true := by decide +kernel
theorem w_t12 : ((((((((((((words1.drop 24).drop 24).drop 24).drop 24).drop 24).drop 24).drop 24).drop 24).drop 24).drop 24).drop 24).take 24).all (fun c => isCode c || c.before args0 about1) = true := by decide +kernel
theorem w_t13 : (((((((((((((words1.drop 24).drop 24).drop 24).drop 24).drop 24).drop 24).drop 24).drop 24).drop 24).drop 24).drop 24).drop 24).take 24).all (fun c => isCode c || c.before args0 about1) = true := by decide +kernel
theorem w_t14 : ((((((((((((((words1.drop 24).drop 24).drop 24).drop 24).drop 24).drop 24).drop 24).drop 24).drop 24).drop 24).drop 24).drop 24).drop 24).take 24).all (fun c => isCode c || c.before args0 about1) = true := by decide +kernel
theorem w_t15 : (((((((((((((((words1.drop 24).drop 24).drop 24).drop 24).drop 24).drop 24).drop 24).drop 24).drop 24).drop 24).drop 24).drop 24).drop 24).drop 24).take 24).all (fun c => isCode c || c.before args0 about1) = true := by decide +kernel
theorem w_t16 : ((((((((((((((((words1.drop 24).drop 24).drop 24).drop 24).drop 24).drop 24).drop 24).drop 24).drop 24).drop 24).drop 24).drop 24).drop 24).drop 24).drop 24).take 24).all (fun c => isCode c || c.before args0 about1) = true := by decide +kernel
theorem w_t17 : ((((((((((((((((words1.drop 24).drop 24).drop 24).drop 24).drop 24).drop 24).drop 24).drop 24).drop 24).drop 24).drop 24).drop 24).drop 24).drop 24).drop 24).drop 24).all (fun c => isCode c || c.before args0 about1) = true := by decide +kernel
theorem w_tables : (allAtoms (Jvm.Cond.code x code maxLocals ret :: tables_1)).before args0 about1 = true := by
  rw [allAtoms_all]
  show words1.all (fun c => c.before args0 about1) = true
  refine all_split ?_ w_codes
  rw [← List.take_append_drop 24 words1, List.all_append, w_t1, ← List.take_append_drop 24 (words1.drop 24), List.all_append, w_t2, ← List.take_append_drop 24 ((words1.drop 24).drop 24), List.all_append, w_t3, ← List.take_append_drop 24 (((words1.drop 24).drop 24).drop 24), List.all_append, w_t4, ← List.take_append_drop 24 ((((words1.drop 24).drop 24).drop 24).drop 24), List.all_append, w_t5, ← List.take_append_drop 24 (((((words1.drop 24).drop 24).drop 24).drop 24).drop 24), List.all_append, w_t6, ← List.take_append_drop 24 ((((((words1.drop 24).drop 24).drop 24).drop 24).drop 24).drop 24), List.all_append, w_t7, ← List.take_append_drop 24 (((((((words1.drop 24).drop 24).drop 24).drop 24).drop 24).drop 24).drop 24), List.all_append, w_t8, ← List.take_append_drop 24 ((((((((words1.drop 24).drop 24).drop 24).drop 24).drop 24).drop 24).drop 24).drop 24), List.all_append, w_t9, ← List.take_append_drop 24 (((((((((words1.drop 24).drop 24).drop 24).drop 24).drop 24).drop 24).drop 24).drop 24).drop 24), List.all_append, w_t10, ← List.take_append_drop 24 ((((((((((words1.drop 24).drop 24).drop 24).drop 24).drop 24).drop 24).drop 24).drop 24).drop 24).drop 24), List.all_append, w_t11, ← List.take_append_drop 24 (((((((((((words1.drop 24).drop 24).drop 24).drop 24).drop 24).drop 24).drop 24).drop 24).drop 24).drop 24).drop 24), List.all_append, w_t12, ← List.take_append_drop 24 ((((((((((((words1.drop 24).drop 24).drop 24).drop 24).drop 24).drop 24).drop 24).drop 24).drop 24).drop 24).drop 24).drop 24), List.all_append, w_t13, ← List.take_append_drop 24 (((((((((((((words1.drop 24).drop 24).drop 24).drop 24).drop 24).drop 24).drop 24).drop 24).drop 24).drop 24).drop 24).drop 24).drop 24), List.all_append, w_t14, ← List.take_append_drop 24 ((((((((((((((words1.drop 24).drop 24).drop 24).drop 24).drop 24).drop 24).drop 24).drop 24).drop 24).drop 24).drop 24).drop 24).drop 24).drop 24), List.all_append, w_t15, ← List.take_append_drop 24 (((((((((((((((words1.drop 24).drop 24).drop 24).drop 24).drop 24).drop 24).drop 24).drop 24).drop 24).drop 24).drop 24).drop 24).drop 24).drop 24).drop 24), List.all_append, w_t16, w_t17]
  rfl
theorem w_rest : rest_1_c.before args0 about1 = true := by decide +kernel
theorem w_case : (Jvm.Cond.and given_1 narrow_1).before args0 about1 = true := by decide +kernel
theorem w_consts : constsHeld consts_1 about1 := Jvm.Lit.constsHeldB_iff.mp (by decide +kernel)
theorem w_applies : (headSpec (Jvm.Cond.code x code maxLocals ret :: tables_1) room_1).applies x e0.platform about1 = true :=
  (Spec.applies_iff w_frames).mpr ⟨w_running, w_runnable, w_alone, w_named, w_hears, w_ripe, w_room, w_tables⟩
theorem atStart : AtStart classFile x code maxLocals ret World_1 tables_1 room_1 Calls_1 rest_1 Pre_1 launch0 p0 e0 about1 theMethod args0 below0 :=
  ⟨lists_1, trivial, launch0.admits_env _ _ _, launch0.least_env, fairChoices_fair.cas, fairChoices_fair.clock, w_frames, w_args, w_heap, w_applies, ⟨w_consts, trivial⟩, w_rest, w_case⟩
end start1
theorem witness_1 : WitnessClaimed_1 := ⟨start1.p0, start1.e0, start1.about1, start1.theMethod, start1.args0, start1.below0, start1.atStart⟩
end Jvm.Pilot.@@N@@
