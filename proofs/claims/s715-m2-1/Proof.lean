import JvmDerived
import JvmDerived.Pilot.@@N@@Statement
import JvmDerived.Pilot.@@N@@Code
set_option linter.unusedVariables false
set_option linter.unusedSimpArgs false
namespace Jvm.Pilot.@@N@@
open Jvm Jvm.ClassFile Sem Op Lib Jvm.Free Jvm.Stand Jvm.LawKit Jvm.RoadKit Bundle Jvm.Pilot.@@N@@.Jvm.D
/-- from the state A the run comes to an end with P -/
def Gl (tb : Tables) (e : Env) (below : List Frame) (P : Outcome → State → Prop) (A : State) : Prop := ∃ U o, Steps tb e below A U ∧ U.status = .running ∧ Ended U below o ∧ P o U
theorem Gl.go {tb : Tables} {e : Env} {below : List Frame} {P : Outcome → State → Prop} {A B : State} (h : ∀ t, Steps tb e below B t → Steps tb e below A t) (k : Gl tb e below P B) : Gl tb e below P A := by
  obtain ⟨U, o, h1, r⟩ := k
  exact ⟨U, o, h U h1, r⟩
theorem Gl.st {tb : Tables} {e : Env} {below : List Frame} {P : Outcome → State → Prop} {A B : State} (h : Steps tb e below A B) (k : Gl tb e below P B) : Gl tb e below P A := by
  obtain ⟨U, o, h1, r⟩ := k
  exact ⟨U, o, h.trans h1, r⟩
/-- from the state A the run comes to the frame F over a state of which P holds -/
def Sg (P : State → Prop) (F : JFrame) (tb : Tables) (e : Env) (below : List Frame) (A : State) : Prop := ∃ T, P T ∧ ∀ t, Steps tb e below (T.setTop F) t → Steps tb e below A t
theorem Sg.go {P : State → Prop} {F : JFrame} {tb : Tables} {e : Env} {below : List Frame} {A B : State} (h : ∀ t, Steps tb e below B t → Steps tb e below A t) (k : Sg P F tb e below B) : Sg P F tb e below A := by
  obtain ⟨T, h1, h2⟩ := k
  exact ⟨T, h1, fun t ht => h t (h2 t ht)⟩
theorem Sg.st {P : State → Prop} {F : JFrame} {tb : Tables} {e : Env} {below : List Frame} {A B : State} (h : Steps tb e below A B) (k : Sg P F tb e below B) : Sg P F tb e below A := by
  obtain ⟨T, h1, h2⟩ := k
  exact ⟨T, h1, fun t ht => h.trans (h2 t ht)⟩
/-- what is shown of a state holds also where the run comes from -/
def Cl (tb : Tables) (e : Env) (below : List Frame) (K : State → Prop) : Prop := ∀ A B, (∀ t, Steps tb e below B t → Steps tb e below A t) → K B → K A
theorem Gl.cl {tb : Tables} {e : Env} {below : List Frame} {P : Outcome → State → Prop} : Cl tb e below (Gl tb e below P) := fun _ _ h k => Gl.go h k
theorem Sg.cl {P : State → Prop} {F : JFrame} {tb : Tables} {e : Env} {below : List Frame} : Cl tb e below (Sg P F tb e below) := fun _ _ h k => Sg.go h k
section Glue
variable {p : Program} {l : Launch} {e : Env} {R : Room} {s : State} {m : MethodId} {args : Array Value} {below : List Frame} {meth : Method} {c : Code} {T : State} {locs : List Loc} {cells slots : Nat} {Z : State} {a0 : Array Value} {h : Heap} {K0 : State → Prop} {pc : Nat} {Ls : Array Slot} {Ks : List Value} {rest : List Value}
theorem gGetF {own R0 O n d host : String} {index : Nat} {a : Addr} {v : Value} (hG : Cl p.tables e below K0) (X : Stand p l e R s m args below meth c T locs cells slots) (hx : p.tables.exec = Jvm.exec) (hZ : Z.Warmed39 s.vm) (hown : s.vm.findClass own = some m.cls) (w : (Cond.fieldLink own index R0 n d).before a0 Z = true ∨ (Cond.fieldLinkNest own index R0 n d host).before a0 Z = true) (via : Via Z R0 O n d) (eT : T.heap = h) (F : Fld Z h a O n d v) (hg : m = m) (hs : Ks = .ref a :: rest) (hd : decode c.code pc = .ok (.getfield index, 3))
    (k : ∀ T', Stand p l e R s m args below meth c T' locs cells slots → T'.heap = h → K0 (T'.setTop (mkF m (pc + 3) (Ls) (v :: rest)))) : K0 (T.setTop (mkF m pc Ls Ks)) := by
  obtain ⟨T', X', e', st⟩ := getF (g := mkF m pc Ls Ks) X hx hZ hown w via eT F hg hs hd
  exact hG _ _ st (k T' X' e')
theorem gGetS {own R0 O n d host : String} {index : Nat} {v : Value} (hG : Cl p.tables e below K0) (X : Stand p l e R s m args below meth c T locs cells slots) (hx : p.tables.exec = Jvm.exec) (hZ : Z.Warmed39 s.vm) (hown : s.vm.findClass own = some m.cls) (w : (Cond.fieldLink own index R0 n d).before a0 Z = true ∨ (Cond.fieldLinkNest own index R0 n d host).before a0 Z = true) (via : Via Z R0 O n d) (eT : T.heap = h) (F : Sta Z h O n d v) (hg : m = m) (hd : decode c.code pc = .ok (.getstatic index, 3))
    (k : ∀ T', Stand p l e R s m args below meth c T' locs cells slots → T'.heap = h → K0 (T'.setTop (mkF m (pc + 3) (Ls) (v :: Ks)))) : K0 (T.setTop (mkF m pc Ls Ks)) := by
  obtain ⟨T', X', e', st⟩ := getS2 (g := mkF m pc Ls Ks) X hx hZ hown w via eT F hg hd
  exact hG _ _ st (k T' X' e')
theorem gPutF {own R0 O n d host C : String} {index kk : Nat} {ty : FieldType} {a : Addr} {v old : Value} (hG : Cl p.tables e below K0) (X : Stand p l e R s m args below meth c T locs cells slots) (hx : p.tables.exec = Jvm.exec) (hZ : Z.Warmed39 s.vm) (hown : s.vm.findClass own = some m.cls) (w : (Cond.fieldLink own index R0 n d).before a0 Z = true ∨ (Cond.fieldLinkNest own index R0 n d host).before a0 Z = true) (via : Via Z R0 O n d) (eT : T.heap = h) (F : Fld Z h a O n d old) (E : Exa Z h a C) (L : (Cond.lays C O n d).before a0 Z = true ∨ ((Cond.laysFinal C O n d).before a0 Z = true ∧ own = O ∧ meth.name = "<init>")) (wi : (Cond.instantiable C kk).before a0 Z = true) (hty : parseFieldDescriptor d = some ty) (hn : narrow ty v = v) (hf : fits ty v = true) (hg : m = m) (hs : Ks = v :: .ref a :: rest) (hd : decode c.code pc = .ok (.putfield index, 3))
    (k : ∀ T' h', Stand p l e R s m args below meth c T' (locs ++ [⟨a, Jvm.RoadKit.slotOf Z O n d⟩]) cells slots → T'.heap = h' → Wr h h' a (Jvm.RoadKit.slotOf Z O n d) v → K0 (T'.setTop (mkF m (pc + 3) (Ls) (rest)))) : K0 (T.setTop (mkF m pc Ls Ks)) := by
  obtain ⟨T', h', X', e', W, st⟩ := putF (g := mkF m pc Ls Ks) X hx hZ hown w via eT F E L wi hty hn hf hg hs hd
  exact hG _ _ st (k T' h' X' e' W)
theorem gPutFN {own R0 O n d C : String} {index kk : Nat} {ty : FieldType} {a : Addr} {v v' old : Value} (hG : Cl p.tables e below K0) (X : Stand p l e R s m args below meth c T locs cells slots) (hx : p.tables.exec = Jvm.exec) (hZ : Z.Warmed39 s.vm) (hown : s.vm.findClass own = some m.cls) (w : (Cond.fieldLink own index R0 n d).before a0 Z = true) (via : Via Z R0 O n d) (eT : T.heap = h) (F : Fld Z h a O n d old) (E : Exa Z h a C) (L : (Cond.lays C O n d).before a0 Z = true ∨ ((Cond.laysFinal C O n d).before a0 Z = true ∧ own = O ∧ meth.name = "<init>")) (wi : (Cond.instantiable C kk).before a0 Z = true) (hty : parseFieldDescriptor d = some ty) (hn : narrow ty v = v') (hf : fits ty v' = true) (hg : m = m) (hs : Ks = v :: .ref a :: rest) (hd : decode c.code pc = .ok (.putfield index, 3))
    (k : ∀ T' h', Stand p l e R s m args below meth c T' (locs ++ [⟨a, Jvm.RoadKit.slotOf Z O n d⟩]) cells slots → T'.heap = h' → Wr h h' a (Jvm.RoadKit.slotOf Z O n d) v' → K0 (T'.setTop (mkF m (pc + 3) (Ls) (rest)))) : K0 (T.setTop (mkF m pc Ls Ks)) := by
  obtain ⟨T', h', X', e', W, st⟩ := putFN (g := mkF m pc Ls Ks) X hx hZ hown w via eT F E L wi hty hn hf hg hs hd
  exact hG _ _ st (k T' h' X' e' W)
theorem gCast {own K : String} {index : Nat} {a : Addr} (hG : Cl p.tables e below K0) (X : Stand p l e R s m args below meth c T locs cells slots) (hx : p.tables.exec = Jvm.exec) (hZ : Z.Warmed39 s.vm) (hown : s.vm.findClass own = some m.cls) (w : (Cond.classLink own index K).before a0 Z = true) (eT : T.heap = h) (F : Ins Z h a K true) (hg : m = m) (hs : Ks = .ref a :: rest) (hd : decode c.code pc = .ok (.checkcast index, 3))
    (k : ∀ T', Stand p l e R s m args below meth c T' locs cells slots → T'.heap = h → K0 (T'.setTop (mkF m (pc + 3) (Ls) (Ks)))) : K0 (T.setTop (mkF m pc Ls Ks)) := by
  obtain ⟨T', X', e', st⟩ := castY (g := mkF m pc Ls Ks) X hx hZ hown w eT F hg hs hd
  exact hG _ _ st (k T' X' e')
theorem gInst {own K : String} {index : Nat} {a : Addr} (hG : Cl p.tables e below K0) (X : Stand p l e R s m args below meth c T locs cells slots) (hx : p.tables.exec = Jvm.exec) (hZ : Z.Warmed39 s.vm) (hown : s.vm.findClass own = some m.cls) (w : (Cond.classLink own index K).before a0 Z = true) (eT : T.heap = h) (F : Ins Z h a K true) (hg : m = m) (hs : Ks = .ref a :: rest) (hd : decode c.code pc = .ok (.instanceof index, 3))
    (k : ∀ T', Stand p l e R s m args below meth c T' locs cells slots → T'.heap = h → K0 (T'.setTop (mkF m (pc + 3) (Ls) (.int 1 :: rest)))) : K0 (T.setTop (mkF m pc Ls Ks)) := by
  obtain ⟨T', X', e', st⟩ := instY (g := mkF m pc Ls Ks) X hx hZ hown w eT F hg hs hd
  exact hG _ _ st (k T' X' e')
theorem gInit {own : String} {idx : Nat} {a : Addr} {W : Nat} (hG : Cl p.tables e below K0) (X : Stand p l e R s m args below meth c T locs cells slots) (hx : p.tables.exec = Jvm.exec) (hZ : Z.Warmed39 s.vm) (hown : s.vm.findClass own = some m.cls) (w1 : (Cond.methodLink own idx Lib.objectInit).before a0 Z = true) (w2 : (Cond.instanceMethod Lib.objectInit).before a0 Z = true) (w3 : (Cond.code Lib.objectInit ⟨#[0xb1]⟩ 1 none).before a0 Z = true) (eT : T.heap = h) (hg : m = m) (hsize : Ls.size = c.maxLocals) (hs : Ks = .ref a :: rest) (hd : decode c.code pc = .ok (.invokespecial idx, 3)) (hf : 1 ≤ R.frames) (hW : 2 * 0 + (rest.map fun v => v.category).sum ≤ W) (hl : W + 12 ≤ R.locals)
    (k : ∀ T', Stand p l e R s m args below meth c T' locs cells slots → T'.heap = h → K0 (T'.setTop (mkF m (pc + 3) (Ls) (rest)))) : K0 (T.setTop (mkF m pc Ls Ks)) := by
  obtain ⟨T', X', e', st⟩ := initO (g := mkF m pc Ls Ks) X hx hZ hown w1 w2 w3 eT hg hsize hs hd hf hW hl
  exact hG _ _ st (k T' X' e')
theorem gNew {own C : String} {index n : Nat} (hG : Cl p.tables e below K0) (X : Stand p l e R s m args below meth c T locs cells slots) (hx : p.tables.exec = Jvm.exec) (hZ : Z.Warmed39 s.vm) (hown : s.vm.findClass own = some m.cls) (w : (Cond.classLink own index C).before a0 Z = true) (wi : (Cond.instantiable C n).before a0 Z = true) (wz : (Cond.initialized C).before a0 Z = true) (eT : T.heap = h) (hg : m = m) (hd : decode c.code pc = .ok (.new index, 3)) (hc : cells + 1 ≤ R.cells) (hl : slots + n ≤ R.slots)
    (k : ∀ T' h' b, b = h.size → Stand p l e R s m args below meth c T' locs (cells + 1) (slots + n) → T'.heap = h' → Ext h h' → Exa Z h' b C → (∀ {O nm d : String} {ty : FieldType}, Laid Z a0 C O nm d → parseFieldDescriptor d = some ty → Fld Z h' b O nm d (defaultValue ty)) → K0 (T'.setTop (mkF m (pc + 3) (Ls) (.ref b :: Ks)))) : K0 (T.setTop (mkF m pc Ls Ks)) := by
  obtain ⟨T', h', X', e', E, A, D, -, st⟩ := newO (g := mkF m pc Ls Ks) X hx hZ hown w wi wz eT hg hd hc hl
  exact hG _ _ st (k T' h' _ rfl X' e' E A D)
theorem gNewP {aty : ArrayType} {n : Int32} {cap : Nat} (hG : Cl p.tables e below K0) (X : Stand p l e R s m args below meth c T locs cells slots) (hx : p.tables.exec = Jvm.exec) (hZ : Z.Warmed39 s.vm) (w : (Cond.arrayClass (newarray.typeOf aty)).before a0 Z = true) (eT : T.heap = h) (hg : m = m) (hd : decode c.code pc = .ok (.newarray aty, 2)) (hs : Ks = .int n :: rest) (hn : ¬ n < 0) (hcap : n.toNatClampNeg ≤ cap) (hb : cap * 8 ≤ 536870912) (hc : cells + 1 ≤ R.cells) (hl : slots + cap ≤ R.slots)
    (k : ∀ T' h' b cA, b = h.size → Stand p l e R s m args below meth c T' locs (cells + 1) (slots + cap) → T'.heap = h' → Ext h h' → Arr Z h' b (newA cA (newarray.typeOf aty) n) (newarray.typeOf aty) → K0 (T'.setTop (mkF m (pc + 2) (Ls) (.ref b :: rest)))) : K0 (T.setTop (mkF m pc Ls Ks)) := by
  obtain ⟨T', h', cA, X', e', E, A, st⟩ := newP (g := mkF m pc Ls Ks) X hx hZ w eT hg hd hs hn hcap hb hc hl
  exact hG _ _ st (k T' h' _ cA rfl X' e' E A)
theorem gNewPE {aty : ArrayType} {n : Int32} {cap : Nat} {ad : String} (hG : Cl p.tables e below K0) (X : Stand p l e R s m args below meth c T locs cells slots) (hx : p.tables.exec = Jvm.exec) (hZ : Z.Warmed39 s.vm) (w : (Cond.arrayClass (newarray.typeOf aty)).before a0 Z = true) (eT : T.heap = h) (hg : m = m) (hd : decode c.code pc = .ok (.newarray aty, 2)) (hs : Ks = .int n :: rest) (hn : ¬ n < 0) (hcap : n.toNatClampNeg ≤ cap) (hb : cap * 8 ≤ 536870912) (hc : cells + 1 ≤ R.cells) (hl : slots + cap ≤ R.slots) (had : "[" ++ (newarray.typeOf aty).toString = ad)
    (k : ∀ T' h' b cA, b = h.size → Stand p l e R s m args below meth c T' locs (cells + 1) (slots + cap) → T'.heap = h' → Ext h h' → Arr Z h' b (newA cA (newarray.typeOf aty) n) (newarray.typeOf aty) → Exa Z h' b ad → K0 (T'.setTop (mkF m (pc + 2) (Ls) (.ref b :: rest)))) : K0 (T.setTop (mkF m pc Ls Ks)) := by
  obtain ⟨T', h', cA, X', e', E, A, B, st⟩ := newPE (g := mkF m pc Ls Ks) X hx hZ w eT hg hd hs hn hcap hb hc hl had
  exact hG _ _ st (k T' h' _ cA rfl X' e' E A B)
theorem gstC {a : Addr} {cl : Cell} {j : Int32} {x : Int32} (hG : Cl p.tables e below K0) (X : Stand p l e R s m args below meth c T locs cells slots) (hx : p.tables.exec = Jvm.exec) (hZ : Z.Warmed39 s.vm) (eT : T.heap = h) (A : Arr Z h a cl .char) (hj : ¬ (j < 0 ∨ cl.slots.size ≤ j.toNatClampNeg)) (hg : m = m) (hs : Ks = .int x :: .int j :: .ref a :: rest) (hd : decode c.code pc = .ok (.castore, 1))
    (k : ∀ T' h', Stand p l e R s m args below meth c T' (locs ++ [⟨a, j.toNatClampNeg⟩]) cells slots → T'.heap = h' → Wr h h' a j.toNatClampNeg (.int (nar .char x)) → K0 (T'.setTop (mkF m (pc + 1) (Ls) (rest)))) : K0 (T.setTop (mkF m pc Ls Ks)) := by
  obtain ⟨T', h', X', e', W, st⟩ := stC (g := mkF m pc Ls Ks) X hx hZ eT A hj hg hs hd
  exact hG _ _ st (k T' h' X' e' W)
theorem gstI {a : Addr} {cl : Cell} {j : Int32} {x : Int32} (hG : Cl p.tables e below K0) (X : Stand p l e R s m args below meth c T locs cells slots) (hx : p.tables.exec = Jvm.exec) (hZ : Z.Warmed39 s.vm) (eT : T.heap = h) (A : Arr Z h a cl .int) (hj : ¬ (j < 0 ∨ cl.slots.size ≤ j.toNatClampNeg)) (hg : m = m) (hs : Ks = .int x :: .int j :: .ref a :: rest) (hd : decode c.code pc = .ok (.iastore, 1))
    (k : ∀ T' h', Stand p l e R s m args below meth c T' (locs ++ [⟨a, j.toNatClampNeg⟩]) cells slots → T'.heap = h' → Wr h h' a j.toNatClampNeg (.int x) → K0 (T'.setTop (mkF m (pc + 1) (Ls) (rest)))) : K0 (T.setTop (mkF m pc Ls Ks)) := by
  obtain ⟨T', h', X', e', W, st⟩ := stI (g := mkF m pc Ls Ks) X hx hZ eT A hj hg hs hd
  exact hG _ _ st (k T' h' X' e' W)
theorem gstB {a : Addr} {cl : Cell} {j : Int32} {x : Int32} (hG : Cl p.tables e below K0) (X : Stand p l e R s m args below meth c T locs cells slots) (hx : p.tables.exec = Jvm.exec) (hZ : Z.Warmed39 s.vm) (eT : T.heap = h) (A : Arr Z h a cl .byte) (hj : ¬ (j < 0 ∨ cl.slots.size ≤ j.toNatClampNeg)) (hg : m = m) (hs : Ks = .int x :: .int j :: .ref a :: rest) (hd : decode c.code pc = .ok (.bastore, 1))
    (k : ∀ T' h', Stand p l e R s m args below meth c T' (locs ++ [⟨a, j.toNatClampNeg⟩]) cells slots → T'.heap = h' → Wr h h' a j.toNatClampNeg (.int (nar .byte x)) → K0 (T'.setTop (mkF m (pc + 1) (Ls) (rest)))) : K0 (T.setTop (mkF m pc Ls Ks)) := by
  obtain ⟨T', h', X', e', W, st⟩ := stB (g := mkF m pc Ls Ks) X hx hZ eT A hj hg hs hd
  exact hG _ _ st (k T' h' X' e' W)
theorem gstJ {a : Addr} {cl : Cell} {j : Int32} {x : Int64} (hG : Cl p.tables e below K0) (X : Stand p l e R s m args below meth c T locs cells slots) (hx : p.tables.exec = Jvm.exec) (hZ : Z.Warmed39 s.vm) (eT : T.heap = h) (A : Arr Z h a cl .long) (hj : ¬ (j < 0 ∨ cl.slots.size ≤ j.toNatClampNeg)) (hg : m = m) (hs : Ks = .long x :: .int j :: .ref a :: rest) (hd : decode c.code pc = .ok (.lastore, 1))
    (k : ∀ T' h', Stand p l e R s m args below meth c T' (locs ++ [⟨a, j.toNatClampNeg⟩]) cells slots → T'.heap = h' → Wr h h' a j.toNatClampNeg (.long x) → K0 (T'.setTop (mkF m (pc + 1) (Ls) (rest)))) : K0 (T.setTop (mkF m pc Ls Ks)) := by
  obtain ⟨T', h', X', e', W, st⟩ := stJ (g := mkF m pc Ls Ks) X hx hZ eT A hj hg hs hd
  exact hG _ _ st (k T' h' X' e' W)
theorem g_iaload {a : Addr} {cl : Cell} {j : Int32} {v : Value} (hG : Cl p.tables e below K0) (X : Stand p l e R s m args below meth c T locs cells slots) (hx : p.tables.exec = Jvm.exec) (hZ : Z.Warmed39 s.vm) (eT : T.heap = h) (A : Arr Z h a cl .int) (hj : ¬ (j < 0 ∨ cl.slots.size ≤ j.toNatClampNeg)) (hv : cl.slots[j.toNatClampNeg]? = some v) (hg : m = m) (hs : Ks = .int j :: .ref a :: rest) (hd : decode c.code pc = .ok (.iaload, 1))
    (k : K0 (T.setTop (mkF m (pc + 1) (Ls) (v :: rest)))) : K0 (T.setTop (mkF m pc Ls Ks)) :=
  hG _ _ (X.iaload (g := mkF m pc Ls Ks) hx (by rw [eT]; exact A.1) (State.isArrayOf_alike hZ.alike A.2.1) A.2.2 hj hv hg hs hd) k
theorem g_laload {a : Addr} {cl : Cell} {j : Int32} {v : Value} (hG : Cl p.tables e below K0) (X : Stand p l e R s m args below meth c T locs cells slots) (hx : p.tables.exec = Jvm.exec) (hZ : Z.Warmed39 s.vm) (eT : T.heap = h) (A : Arr Z h a cl .long) (hj : ¬ (j < 0 ∨ cl.slots.size ≤ j.toNatClampNeg)) (hv : cl.slots[j.toNatClampNeg]? = some v) (hg : m = m) (hs : Ks = .int j :: .ref a :: rest) (hd : decode c.code pc = .ok (.laload, 1))
    (k : K0 (T.setTop (mkF m (pc + 1) (Ls) (v :: rest)))) : K0 (T.setTop (mkF m pc Ls Ks)) :=
  hG _ _ (X.laload (g := mkF m pc Ls Ks) hx (by rw [eT]; exact A.1) (State.isArrayOf_alike hZ.alike A.2.1) A.2.2 hj hv hg hs hd) k
theorem g_caload {a : Addr} {cl : Cell} {j : Int32} {v : Value} (hG : Cl p.tables e below K0) (X : Stand p l e R s m args below meth c T locs cells slots) (hx : p.tables.exec = Jvm.exec) (hZ : Z.Warmed39 s.vm) (eT : T.heap = h) (A : Arr Z h a cl .char) (hj : ¬ (j < 0 ∨ cl.slots.size ≤ j.toNatClampNeg)) (hv : cl.slots[j.toNatClampNeg]? = some v) (hg : m = m) (hs : Ks = .int j :: .ref a :: rest) (hd : decode c.code pc = .ok (.caload, 1))
    (k : K0 (T.setTop (mkF m (pc + 1) (Ls) (v :: rest)))) : K0 (T.setTop (mkF m pc Ls Ks)) :=
  hG _ _ (X.caload (g := mkF m pc Ls Ks) hx (by rw [eT]; exact A.1) (State.isArrayOf_alike hZ.alike A.2.1) A.2.2 hj hv hg hs hd) k
theorem g_baload {a : Addr} {cl : Cell} {j : Int32} {v : Value} (hG : Cl p.tables e below K0) (X : Stand p l e R s m args below meth c T locs cells slots) (hx : p.tables.exec = Jvm.exec) (hZ : Z.Warmed39 s.vm) (eT : T.heap = h) (A : Arr Z h a cl .byte) (hj : ¬ (j < 0 ∨ cl.slots.size ≤ j.toNatClampNeg)) (hv : cl.slots[j.toNatClampNeg]? = some v) (hg : m = m) (hs : Ks = .int j :: .ref a :: rest) (hd : decode c.code pc = .ok (.baload, 1))
    (k : K0 (T.setTop (mkF m (pc + 1) (Ls) (v :: rest)))) : K0 (T.setTop (mkF m pc Ls Ks)) :=
  hG _ _ (X.baloadBytes (g := mkF m pc Ls Ks) hx (by rw [eT]; exact A.1) (State.isArrayOf_alike hZ.alike A.2.1) A.2.2 hj hv hg hs hd) k
theorem g_aaload {a : Addr} {cl : Cell} {j : Int32} {v : Value} {ty : FieldType} (hG : Cl p.tables e below K0) (X : Stand p l e R s m args below meth c T locs cells slots) (hx : p.tables.exec = Jvm.exec) (hZ : Z.Warmed39 s.vm) (eT : T.heap = h) (A : Arr Z h a cl ty) (hty : ty.isReference = true) (hj : ¬ (j < 0 ∨ cl.slots.size ≤ j.toNatClampNeg)) (hv : cl.slots[j.toNatClampNeg]? = some v) (hg : m = m) (hs : Ks = .int j :: .ref a :: rest) (hd : decode c.code pc = .ok (.aaload, 1))
    (k : K0 (T.setTop (mkF m (pc + 1) (Ls) (v :: rest)))) : K0 (T.setTop (mkF m pc Ls Ks)) :=
  hG _ _ (X.aaload (g := mkF m pc Ls Ks) hx (by rw [eT]; exact A.1) (State.isArrayOf_alike hZ.alike A.2.1) hty A.2.2 hj hv hg hs hd) k
theorem gLen {a : Addr} {cl : Cell} {ty : FieldType} {z : Int32} (hG : Cl p.tables e below K0) (X : Stand p l e R s m args below meth c T locs cells slots) (hx : p.tables.exec = Jvm.exec) (hZ : Z.Warmed39 s.vm) (eT : T.heap = h) (A : Arr Z h a cl ty) (S : cl.slots.size = z.toNatClampNeg) (N : ¬ z < 0) (hg : m = m) (hs : Ks = .ref a :: rest) (hd : decode c.code pc = .ok (.arraylength, 1))
    (k : K0 (T.setTop (mkF m (pc + 1) (Ls) (.int z :: rest)))) : K0 (T.setTop (mkF m pc Ls Ks)) := by
  refine hG _ _ (X.arraylength (g := mkF m pc Ls Ks) hx (by rw [eT]; exact A.1) (State.isArrayOf_alike hZ.alike A.2.1) hg hs hd) ?_
  rw [len_of S N]
  exact k
theorem gStaticN {own : String} {index : Nat} {y : MethodName} {bytes : ByteArray} {maxL : Nat} {ret : Option FieldType} {W mc ms : Nat} {as' : Array Value} {Q : Option Value → Heap → List Loc → Prop} {argsL : List Value} (hG : Cl p.tables e below K0) (X : Stand p l e R s m args below meth c T locs cells slots) (hx : p.tables.exec = Jvm.exec) (hZ : Z.Warmed39 s.vm) (hown : s.vm.findClass own = some m.cls) (hlink : (Cond.methodLink own index y).before args s = true) (hstat : (Cond.static y).before args s = true) (hinit : (Cond.initialized y.cls).before args s = true) (hcode : (Cond.code y bytes maxL ret).before args s = true) (hy : y.cls ≠ "java/lang/invoke/MethodHandle" ∧ y.cls ≠ "java/lang/invoke/VarHandle") (hK : Back l R p e below s args y 3 W (fun A a => a = as' ∧ A.U.heap = h ∧ A.cells + mc ≤ R.cells ∧ A.slots + ms ≤ R.slots) (fun A _ v B => ∃ L, Q v B.U.heap L ∧ B.locs = A.locs ++ L ∧ B.cells = A.cells + mc ∧ B.slots = A.slots + ms)) (hg : m = m) (hsize : Ls.size = c.maxLocals) (hlen : ∀ sig, parseMethodDescriptor y.desc = some sig → argsL.length = sig.parameters.length) (hstack : Ks = argsL.reverse ++ rest) (hW : 2 * 0 + (rest.map fun v => v.category).sum ≤ W) (hdg : decode c.code pc = .ok (.invokestatic index, 3)) (has : argsL.toArray = as') (eT : T.heap = h) (hc : cells + mc ≤ R.cells) (hsl : slots + ms ≤ R.slots)
    (k : ∀ (v : Option Value) (T' : State) (L : List Loc), Q v T'.heap L → Stand p l e R s m args below meth c T' (locs ++ L) (cells + mc) (slots + ms) → K0 (T'.setTop (mkF m (pc + 3) (Ls) (v.toList ++ rest)))) : K0 (T.setTop (mkF m pc Ls Ks)) := by
  obtain ⟨v, vm₁, ⟨T', L', k', n'⟩, -, X', ⟨Lc, hQ, h1, h2, h3⟩, st⟩ := Jvm.LawKit.callS (g := mkF m pc Ls Ks) X hx hown hlink hstat hinit hcode hy hK hg hsize hlen hstack hW hdg (fun vm₁ hvm => ⟨has, eT, hc, hsl⟩)
  dsimp only [Pt.U, Pt.locs, Pt.cells, Pt.slots] at X' hQ h1 h2 h3 st
  subst h1 h2 h3
  exact hG _ _ st (k v T' Lc hQ X')
theorem gStaticS {own : String} {index : Nat} {y : MethodName} {bytes : ByteArray} {maxL : Nat} {ret : Option FieldType} {W mc ms : Nat} {as' : Array Value} {Q : Option Value → Heap → List Loc → Prop} {argsL : List Value} {vm0 : Vm} {k0 : Nat} (hG : Cl p.tables e below K0) (X : Stand p l e R (s.setVm vm0) m args below meth c T locs cells slots) (hx : p.tables.exec = Jvm.exec) (hZ : Z.Warmed39 (s.setVm vm0).vm) (hS : s.Since vm0 k0) (hk : k0 ≤ h.size) (hown : (s.setVm vm0).vm.findClass own = some m.cls) (hlink : (Cond.methodLink own index y).before args (s.setVm vm0) = true) (hstat : (Cond.static y).before args (s.setVm vm0) = true) (hinit : (Cond.initialized y.cls).before args (s.setVm vm0) = true) (hcode : (Cond.code y bytes maxL ret).before args (s.setVm vm0) = true) (hy : y.cls ≠ "java/lang/invoke/MethodHandle" ∧ y.cls ≠ "java/lang/invoke/VarHandle") (hK : BackS l R p e below (s.setVm vm0) args y 3 W (fun A a => a = as' ∧ A.U.heap = h ∧ A.cells + mc ≤ R.cells ∧ A.slots + ms ≤ R.slots) (fun A _ v B => ∃ L, Q v B.U.heap L ∧ B.locs = A.locs ++ L ∧ B.cells = A.cells + mc ∧ B.slots = A.slots + ms)) (hg : m = m) (hsize : Ls.size = c.maxLocals) (hlen : ∀ sig, parseMethodDescriptor y.desc = some sig → argsL.length = sig.parameters.length) (hstack : Ks = argsL.reverse ++ rest) (hW : 2 * 0 + (rest.map fun v => v.category).sum ≤ W) (hdg : decode c.code pc = .ok (.invokestatic index, 3)) (has : argsL.toArray = as') (eT : T.heap = h) (hc : cells + mc ≤ R.cells) (hsl : slots + ms ≤ R.slots)
    (k : ∀ (v : Option Value) (T' : State) (L : List Loc), Q v T'.heap L → Stand p l e R (s.setVm T'.vm) m args below meth c T' (locs ++ L) (cells + mc) (slots + ms) → s.Since T'.vm T'.heap.size → Z.Warmed39 (s.setVm T'.vm).vm → (s.setVm T'.vm).vm.findClass own = some m.cls → T'.heap.size ≤ T'.heap.size → K0 (T'.setTop (mkF m (pc + 3) (Ls) (v.toList ++ rest)))) : K0 (T.setTop (mkF m pc Ls Ks)) := by
  obtain ⟨v, vm₁, ⟨T', L', k', n'⟩, -, X', hS', gr, ⟨Lc, hQ, h1, h2, h3⟩, st⟩ := callSS (g := mkF m pc Ls Ks) X hx hown hlink hstat hinit hcode hy hK hg hsize hlen hstack hW hdg (fun vm₁ hvm => ⟨has, eT, hc, hsl⟩)
  dsimp only [Pt.U, Pt.locs, Pt.cells, Pt.slots] at X' hQ h1 h2 h3 st hS' gr
  subst h1 h2 h3
  obtain ⟨X2, hS2, hZ2, hown2⟩ := rebS hS (Nat.le_trans hk (Nat.le_of_eq (congrArg Array.size eT.symm))) X' hS' gr hZ hown
  exact hG _ _ (fun _ q => st.trans q) (k v T' Lc hQ X2 hS2 hZ2 hown2 (Nat.le_refl _))
theorem gStaticJ {own : String} {index : Nat} {y : MethodName} {bytes : ByteArray} {maxL : Nat} {ret : Option FieldType} {W mc ms : Nat} {as' : Array Value} {Q : Option Value → Heap → Vm → List Loc → Prop} {argsL : List Value} {vm0 : Vm} {k0 : Nat} {Φ : Vm → Prop} (hG : Cl p.tables e below K0) (X : Stand p l e R (s.setVm vm0) m args below meth c T locs cells slots) (hx : p.tables.exec = Jvm.exec) (hZ : Z.Warmed39 (s.setVm vm0).vm) (hS : s.Since vm0 k0) (hk : k0 ≤ h.size) (hown : (s.setVm vm0).vm.findClass own = some m.cls) (hlink : (Cond.methodLink own index y).before args (s.setVm vm0) = true) (hstat : (Cond.static y).before args (s.setVm vm0) = true) (hinit : (Cond.initialized y.cls).before args (s.setVm vm0) = true) (hcode : (Cond.code y bytes maxL ret).before args (s.setVm vm0) = true) (hy : y.cls ≠ "java/lang/invoke/MethodHandle" ∧ y.cls ≠ "java/lang/invoke/VarHandle") (hK : BackS l R p e below (s.setVm vm0) args y 3 W (fun A a => a = as' ∧ A.U.heap = h ∧ Φ A.U.vm ∧ A.cells + mc ≤ R.cells ∧ A.slots + ms ≤ R.slots) (fun A _ v B => ∃ L, Q v B.U.heap B.U.vm L ∧ B.locs = A.locs ++ L ∧ B.cells = A.cells + mc ∧ B.slots = A.slots + ms)) (hg : m = m) (hsize : Ls.size = c.maxLocals) (hlen : ∀ sig, parseMethodDescriptor y.desc = some sig → argsL.length = sig.parameters.length) (hstack : Ks = argsL.reverse ++ rest) (hW : 2 * 0 + (rest.map fun v => v.category).sum ≤ W) (hdg : decode c.code pc = .ok (.invokestatic index, 3)) (has : argsL.toArray = as') (eT : T.heap = h) (hΦ : ∀ vm₁, (s.setVm vm0).WarmedH vm₁ → Φ vm₁) (hc : cells + mc ≤ R.cells) (hsl : slots + ms ≤ R.slots)
    (k : ∀ (v : Option Value) (T' : State) (L : List Loc), Q v T'.heap T'.vm L → Stand p l e R (s.setVm T'.vm) m args below meth c T' (locs ++ L) (cells + mc) (slots + ms) → s.Since T'.vm T'.heap.size → Z.Warmed39 (s.setVm T'.vm).vm → (s.setVm T'.vm).vm.findClass own = some m.cls → T'.heap.size ≤ T'.heap.size → K0 (T'.setTop (mkF m (pc + 3) (Ls) (v.toList ++ rest)))) : K0 (T.setTop (mkF m pc Ls Ks)) := by
  obtain ⟨v, vm₁, ⟨T', L', k', n'⟩, -, X', hS', gr, ⟨Lc, hQ, h1, h2, h3⟩, st⟩ := callSS (g := mkF m pc Ls Ks) X hx hown hlink hstat hinit hcode hy hK hg hsize hlen hstack hW hdg (fun vm₁ hvm => ⟨has, eT, hΦ vm₁ hvm, hc, hsl⟩)
  dsimp only [Pt.U, Pt.locs, Pt.cells, Pt.slots] at X' hQ h1 h2 h3 st hS' gr
  subst h1 h2 h3
  obtain ⟨X2, hS2, hZ2, hown2⟩ := rebS hS (Nat.le_trans hk (Nat.le_of_eq (congrArg Array.size eT.symm))) X' hS' gr hZ hown
  exact hG _ _ (fun _ q => st.trans q) (k v T' Lc hQ X2 hS2 hZ2 hown2 (Nat.le_refl _))
theorem gSpecialN {own : String} {index : Nat} {y : MethodName} {bytes : ByteArray} {maxL : Nat} {b : Addr} {W mc ms : Nat} {as' : Array Value} {Q : Option Value → Heap → List Loc → Prop} {argsL : List Value} (hG : Cl p.tables e below K0) (X : Stand p l e R s m args below meth c T locs cells slots) (hx : p.tables.exec = Jvm.exec) (hZ : Z.Warmed39 s.vm) (hown : s.vm.findClass own = some m.cls) (hy1 : y.name = "<init>") (hlink : (Cond.methodLink own index y).before args s = true) (hinst : (Cond.instanceMethod y).before args s = true) (hcode : (Cond.code y bytes maxL none).before args s = true) (hy : y.cls ≠ "java/lang/invoke/MethodHandle" ∧ y.cls ≠ "java/lang/invoke/VarHandle") (hK : Back l R p e below s args y 3 W (fun A a => a = as' ∧ A.U.heap = h ∧ A.cells + mc ≤ R.cells ∧ A.slots + ms ≤ R.slots) (fun A _ v B => ∃ L, Q v B.U.heap L ∧ B.locs = A.locs ++ L ∧ B.cells = A.cells + mc ∧ B.slots = A.slots + ms)) (hg : m = m) (hsize : Ls.size = c.maxLocals) (hlen : ∀ sig, parseMethodDescriptor y.desc = some sig → argsL.length = sig.parameters.length) (hstack : Ks = argsL.reverse ++ .ref b :: rest) (hW : 2 * 0 + (rest.map fun v => v.category).sum ≤ W) (hdg : decode c.code pc = .ok (.invokespecial index, 3)) (has : (.ref b :: argsL).toArray = as') (eT : T.heap = h) (hc : cells + mc ≤ R.cells) (hsl : slots + ms ≤ R.slots)
    (k : ∀ (v : Option Value) (T' : State) (L : List Loc), Q v T'.heap L → Stand p l e R s m args below meth c T' (locs ++ L) (cells + mc) (slots + ms) → K0 (T'.setTop (mkF m (pc + 3) (Ls) (v.toList ++ rest)))) : K0 (T.setTop (mkF m pc Ls Ks)) := by
  obtain ⟨v, vm₁, ⟨T', L', k', n'⟩, -, X', ⟨Lc, hQ, h1, h2, h3⟩, st⟩ := X.specialBack (g := mkF m pc Ls Ks) hx hy1 hown hlink hinst hcode hy hK hg hsize (Steps.refl _) hlen hstack hW hdg (fun vm₁ hvm => ⟨has, eT, hc, hsl⟩)
  dsimp only [Pt.U, Pt.locs, Pt.cells, Pt.slots] at X' hQ h1 h2 h3 st
  subst h1 h2 h3
  exact hG _ _ (fun _ q => st.trans q) (k v T' Lc hQ X')
theorem gSpecialS {own : String} {index : Nat} {y : MethodName} {bytes : ByteArray} {maxL : Nat} {b : Addr} {W mc ms : Nat} {as' : Array Value} {Q : Option Value → Heap → List Loc → Prop} {argsL : List Value} {vm0 : Vm} {k0 : Nat} (hG : Cl p.tables e below K0) (X : Stand p l e R (s.setVm vm0) m args below meth c T locs cells slots) (hx : p.tables.exec = Jvm.exec) (hZ : Z.Warmed39 (s.setVm vm0).vm) (hS : s.Since vm0 k0) (hk : k0 ≤ h.size) (hown : (s.setVm vm0).vm.findClass own = some m.cls) (hy1 : y.name = "<init>") (hlink : (Cond.methodLink own index y).before args (s.setVm vm0) = true) (hinst : (Cond.instanceMethod y).before args (s.setVm vm0) = true) (hcode : (Cond.code y bytes maxL none).before args (s.setVm vm0) = true) (hy : y.cls ≠ "java/lang/invoke/MethodHandle" ∧ y.cls ≠ "java/lang/invoke/VarHandle") (hK : BackS l R p e below (s.setVm vm0) args y 3 W (fun A a => a = as' ∧ A.U.heap = h ∧ A.cells + mc ≤ R.cells ∧ A.slots + ms ≤ R.slots) (fun A _ v B => ∃ L, Q v B.U.heap L ∧ B.locs = A.locs ++ L ∧ B.cells = A.cells + mc ∧ B.slots = A.slots + ms)) (hg : m = m) (hsize : Ls.size = c.maxLocals) (hlen : ∀ sig, parseMethodDescriptor y.desc = some sig → argsL.length = sig.parameters.length) (hstack : Ks = argsL.reverse ++ .ref b :: rest) (hW : 2 * 0 + (rest.map fun v => v.category).sum ≤ W) (hdg : decode c.code pc = .ok (.invokespecial index, 3)) (has : (.ref b :: argsL).toArray = as') (eT : T.heap = h) (hc : cells + mc ≤ R.cells) (hsl : slots + ms ≤ R.slots)
    (k : ∀ (v : Option Value) (T' : State) (L : List Loc), Q v T'.heap L → Stand p l e R (s.setVm T'.vm) m args below meth c T' (locs ++ L) (cells + mc) (slots + ms) → s.Since T'.vm T'.heap.size → Z.Warmed39 (s.setVm T'.vm).vm → (s.setVm T'.vm).vm.findClass own = some m.cls → T'.heap.size ≤ T'.heap.size → K0 (T'.setTop (mkF m (pc + 3) (Ls) (v.toList ++ rest)))) : K0 (T.setTop (mkF m pc Ls Ks)) := by
  obtain ⟨v, vm₁, ⟨T', L', k', n'⟩, -, X', hS', gr, ⟨Lc, hQ, h1, h2, h3⟩, st⟩ := X.specialBackS (g := mkF m pc Ls Ks) hx hy1 hown hlink hinst hcode hy hK hg hsize (Steps.refl _) hlen hstack hW hdg (fun vm₁ hvm => ⟨has, eT, hc, hsl⟩)
  dsimp only [Pt.U, Pt.locs, Pt.cells, Pt.slots] at X' hQ h1 h2 h3 st hS' gr
  subst h1 h2 h3
  obtain ⟨X2, hS2, hZ2, hown2⟩ := rebS hS (Nat.le_trans hk (Nat.le_of_eq (congrArg Array.size eT.symm))) X' hS' gr hZ hown
  exact hG _ _ (fun _ q => st.trans q) (k v T' Lc hQ X2 hS2 hZ2 hown2 (Nat.le_refl _))
theorem gSpecialJ {own : String} {index : Nat} {y : MethodName} {bytes : ByteArray} {maxL : Nat} {b : Addr} {W mc ms : Nat} {as' : Array Value} {Q : Option Value → Heap → Vm → List Loc → Prop} {argsL : List Value} {vm0 : Vm} {k0 : Nat} {Φ : Vm → Prop} (hG : Cl p.tables e below K0) (X : Stand p l e R (s.setVm vm0) m args below meth c T locs cells slots) (hx : p.tables.exec = Jvm.exec) (hZ : Z.Warmed39 (s.setVm vm0).vm) (hS : s.Since vm0 k0) (hk : k0 ≤ h.size) (hown : (s.setVm vm0).vm.findClass own = some m.cls) (hy1 : y.name = "<init>") (hlink : (Cond.methodLink own index y).before args (s.setVm vm0) = true) (hinst : (Cond.instanceMethod y).before args (s.setVm vm0) = true) (hcode : (Cond.code y bytes maxL none).before args (s.setVm vm0) = true) (hy : y.cls ≠ "java/lang/invoke/MethodHandle" ∧ y.cls ≠ "java/lang/invoke/VarHandle") (hK : BackS l R p e below (s.setVm vm0) args y 3 W (fun A a => a = as' ∧ A.U.heap = h ∧ Φ A.U.vm ∧ A.cells + mc ≤ R.cells ∧ A.slots + ms ≤ R.slots) (fun A _ v B => ∃ L, Q v B.U.heap B.U.vm L ∧ B.locs = A.locs ++ L ∧ B.cells = A.cells + mc ∧ B.slots = A.slots + ms)) (hg : m = m) (hsize : Ls.size = c.maxLocals) (hlen : ∀ sig, parseMethodDescriptor y.desc = some sig → argsL.length = sig.parameters.length) (hstack : Ks = argsL.reverse ++ .ref b :: rest) (hW : 2 * 0 + (rest.map fun v => v.category).sum ≤ W) (hdg : decode c.code pc = .ok (.invokespecial index, 3)) (has : (.ref b :: argsL).toArray = as') (eT : T.heap = h) (hΦ : ∀ vm₁, (s.setVm vm0).WarmedH vm₁ → Φ vm₁) (hc : cells + mc ≤ R.cells) (hsl : slots + ms ≤ R.slots)
    (k : ∀ (v : Option Value) (T' : State) (L : List Loc), Q v T'.heap T'.vm L → Stand p l e R (s.setVm T'.vm) m args below meth c T' (locs ++ L) (cells + mc) (slots + ms) → s.Since T'.vm T'.heap.size → Z.Warmed39 (s.setVm T'.vm).vm → (s.setVm T'.vm).vm.findClass own = some m.cls → T'.heap.size ≤ T'.heap.size → K0 (T'.setTop (mkF m (pc + 3) (Ls) (v.toList ++ rest)))) : K0 (T.setTop (mkF m pc Ls Ks)) := by
  obtain ⟨v, vm₁, ⟨T', L', k', n'⟩, -, X', hS', gr, ⟨Lc, hQ, h1, h2, h3⟩, st⟩ := X.specialBackS (g := mkF m pc Ls Ks) hx hy1 hown hlink hinst hcode hy hK hg hsize (Steps.refl _) hlen hstack hW hdg (fun vm₁ hvm => ⟨has, eT, hΦ vm₁ hvm, hc, hsl⟩)
  dsimp only [Pt.U, Pt.locs, Pt.cells, Pt.slots] at X' hQ h1 h2 h3 st hS' gr
  subst h1 h2 h3
  obtain ⟨X2, hS2, hZ2, hown2⟩ := rebS hS (Nat.le_trans hk (Nat.le_of_eq (congrArg Array.size eT.symm))) X' hS' gr hZ hown
  exact hG _ _ (fun _ q => st.trans q) (k v T' Lc hQ X2 hS2 hZ2 hown2 (Nat.le_refl _))
theorem gVirtualN {own C : String} {index : Nat} {y z : MethodName} {b : Addr} {W mc ms : Nat} {as' : Array Value} {Q : Option Value → Heap → List Loc → Prop} {argsL : List Value} (hG : Cl p.tables e below K0) (X : Stand p l e R s m args below meth c T locs cells slots) (hx : p.tables.exec = Jvm.exec) (hZ : Z.Warmed39 s.vm) (hown : s.vm.findClass own = some m.cls) (hlink : (Cond.methodLink own index y).before args s = true) (hdecl : (Cond.declares y).before args s = true) (hnf : NotFace s y) (hsel : (Cond.selects C y z).before args s = true) (hinst : (Cond.instanceMethod z).before args s = true) (hy : y.cls ≠ "java/lang/invoke/MethodHandle" ∧ y.cls ≠ "java/lang/invoke/VarHandle") (E : Exa Z h b C) (hK : Back l R p e below s args z 3 W (fun A a => a = as' ∧ A.U.heap = h ∧ A.cells + mc ≤ R.cells ∧ A.slots + ms ≤ R.slots) (fun A _ v B => ∃ L, Q v B.U.heap L ∧ B.locs = A.locs ++ L ∧ B.cells = A.cells + mc ∧ B.slots = A.slots + ms)) (hg : m = m) (hsize : Ls.size = c.maxLocals) (hlen : ∀ sig, parseMethodDescriptor y.desc = some sig → argsL.length = sig.parameters.length) (hstack : Ks = argsL.reverse ++ .ref b :: rest) (hW : 2 * 0 + (rest.map fun v => v.category).sum ≤ W) (hdg : decode c.code pc = .ok (.invokevirtual index, 3)) (has : (.ref b :: argsL).toArray = as') (eT : T.heap = h) (hc : cells + mc ≤ R.cells) (hsl : slots + ms ≤ R.slots)
    (k : ∀ (v : Option Value) (T' : State) (L : List Loc), Q v T'.heap L → Stand p l e R s m args below meth c T' (locs ++ L) (cells + mc) (slots + ms) → K0 (T'.setTop (mkF m (pc + 3) (Ls) (v.toList ++ rest)))) : K0 (T.setTop (mkF m pc Ls Ks)) := by
  obtain ⟨cq, kq, q1, q2, q3⟩ := isOf hZ eT E
  obtain ⟨v, vm₁, ⟨T', L', k', n'⟩, -, X', ⟨Lc, hQ, h1, h2, h3⟩, st⟩ := X.virtualBack (g := mkF m pc Ls Ks) hx hown hlink hdecl hnf hsel hinst hy hK q1 q3 hg hsize (Steps.refl _) hlen hstack hW hdg (fun vm₁ hvm => ⟨has, eT, hc, hsl⟩)
  dsimp only [Pt.U, Pt.locs, Pt.cells, Pt.slots] at X' hQ h1 h2 h3 st
  subst h1 h2 h3
  exact hG _ _ (fun _ q => st.trans q) (k v T' Lc hQ X')
theorem gVirtualS {own C : String} {index : Nat} {y z : MethodName} {b : Addr} {W mc ms : Nat} {as' : Array Value} {Q : Option Value → Heap → List Loc → Prop} {argsL : List Value} {vm0 : Vm} {k0 : Nat} (hG : Cl p.tables e below K0) (X : Stand p l e R (s.setVm vm0) m args below meth c T locs cells slots) (hx : p.tables.exec = Jvm.exec) (hZ : Z.Warmed39 (s.setVm vm0).vm) (hS : s.Since vm0 k0) (hk : k0 ≤ h.size) (hown : (s.setVm vm0).vm.findClass own = some m.cls) (hlink : (Cond.methodLink own index y).before args (s.setVm vm0) = true) (hdecl : (Cond.declares y).before args (s.setVm vm0) = true) (hnf : NotFace (s.setVm vm0) y) (hsel : (Cond.selects C y z).before args (s.setVm vm0) = true) (hinst : (Cond.instanceMethod z).before args (s.setVm vm0) = true) (hy : y.cls ≠ "java/lang/invoke/MethodHandle" ∧ y.cls ≠ "java/lang/invoke/VarHandle") (E : Exa Z h b C) (hK : BackS l R p e below (s.setVm vm0) args z 3 W (fun A a => a = as' ∧ A.U.heap = h ∧ A.cells + mc ≤ R.cells ∧ A.slots + ms ≤ R.slots) (fun A _ v B => ∃ L, Q v B.U.heap L ∧ B.locs = A.locs ++ L ∧ B.cells = A.cells + mc ∧ B.slots = A.slots + ms)) (hg : m = m) (hsize : Ls.size = c.maxLocals) (hlen : ∀ sig, parseMethodDescriptor y.desc = some sig → argsL.length = sig.parameters.length) (hstack : Ks = argsL.reverse ++ .ref b :: rest) (hW : 2 * 0 + (rest.map fun v => v.category).sum ≤ W) (hdg : decode c.code pc = .ok (.invokevirtual index, 3)) (has : (.ref b :: argsL).toArray = as') (eT : T.heap = h) (hc : cells + mc ≤ R.cells) (hsl : slots + ms ≤ R.slots)
    (k : ∀ (v : Option Value) (T' : State) (L : List Loc), Q v T'.heap L → Stand p l e R (s.setVm T'.vm) m args below meth c T' (locs ++ L) (cells + mc) (slots + ms) → s.Since T'.vm T'.heap.size → Z.Warmed39 (s.setVm T'.vm).vm → (s.setVm T'.vm).vm.findClass own = some m.cls → T'.heap.size ≤ T'.heap.size → K0 (T'.setTop (mkF m (pc + 3) (Ls) (v.toList ++ rest)))) : K0 (T.setTop (mkF m pc Ls Ks)) := by
  obtain ⟨cq, kq, q1, q2, q3⟩ := isOf hZ eT E
  obtain ⟨v, vm₁, ⟨T', L', k', n'⟩, -, X', hS', gr, ⟨Lc, hQ, h1, h2, h3⟩, st⟩ := X.virtualBackS (g := mkF m pc Ls Ks) hx hown hlink hdecl hnf hsel hinst hy hK q1 q3 hg hsize (Steps.refl _) hlen hstack hW hdg (fun vm₁ hvm => ⟨has, eT, hc, hsl⟩)
  dsimp only [Pt.U, Pt.locs, Pt.cells, Pt.slots] at X' hQ h1 h2 h3 st hS' gr
  subst h1 h2 h3
  obtain ⟨X2, hS2, hZ2, hown2⟩ := rebS hS (Nat.le_trans hk (Nat.le_of_eq (congrArg Array.size eT.symm))) X' hS' gr hZ hown
  exact hG _ _ (fun _ q => st.trans q) (k v T' Lc hQ X2 hS2 hZ2 hown2 (Nat.le_refl _))
theorem gVirtualJ {own C : String} {index : Nat} {y z : MethodName} {b : Addr} {W mc ms : Nat} {as' : Array Value} {Q : Option Value → Heap → Vm → List Loc → Prop} {argsL : List Value} {vm0 : Vm} {k0 : Nat} {Φ : Vm → Prop} (hG : Cl p.tables e below K0) (X : Stand p l e R (s.setVm vm0) m args below meth c T locs cells slots) (hx : p.tables.exec = Jvm.exec) (hZ : Z.Warmed39 (s.setVm vm0).vm) (hS : s.Since vm0 k0) (hk : k0 ≤ h.size) (hown : (s.setVm vm0).vm.findClass own = some m.cls) (hlink : (Cond.methodLink own index y).before args (s.setVm vm0) = true) (hdecl : (Cond.declares y).before args (s.setVm vm0) = true) (hnf : NotFace (s.setVm vm0) y) (hsel : (Cond.selects C y z).before args (s.setVm vm0) = true) (hinst : (Cond.instanceMethod z).before args (s.setVm vm0) = true) (hy : y.cls ≠ "java/lang/invoke/MethodHandle" ∧ y.cls ≠ "java/lang/invoke/VarHandle") (E : Exa Z h b C) (hK : BackS l R p e below (s.setVm vm0) args z 3 W (fun A a => a = as' ∧ A.U.heap = h ∧ Φ A.U.vm ∧ A.cells + mc ≤ R.cells ∧ A.slots + ms ≤ R.slots) (fun A _ v B => ∃ L, Q v B.U.heap B.U.vm L ∧ B.locs = A.locs ++ L ∧ B.cells = A.cells + mc ∧ B.slots = A.slots + ms)) (hg : m = m) (hsize : Ls.size = c.maxLocals) (hlen : ∀ sig, parseMethodDescriptor y.desc = some sig → argsL.length = sig.parameters.length) (hstack : Ks = argsL.reverse ++ .ref b :: rest) (hW : 2 * 0 + (rest.map fun v => v.category).sum ≤ W) (hdg : decode c.code pc = .ok (.invokevirtual index, 3)) (has : (.ref b :: argsL).toArray = as') (eT : T.heap = h) (hΦ : ∀ vm₁, (s.setVm vm0).WarmedH vm₁ → Φ vm₁) (hc : cells + mc ≤ R.cells) (hsl : slots + ms ≤ R.slots)
    (k : ∀ (v : Option Value) (T' : State) (L : List Loc), Q v T'.heap T'.vm L → Stand p l e R (s.setVm T'.vm) m args below meth c T' (locs ++ L) (cells + mc) (slots + ms) → s.Since T'.vm T'.heap.size → Z.Warmed39 (s.setVm T'.vm).vm → (s.setVm T'.vm).vm.findClass own = some m.cls → T'.heap.size ≤ T'.heap.size → K0 (T'.setTop (mkF m (pc + 3) (Ls) (v.toList ++ rest)))) : K0 (T.setTop (mkF m pc Ls Ks)) := by
  obtain ⟨cq, kq, q1, q2, q3⟩ := isOf hZ eT E
  obtain ⟨v, vm₁, ⟨T', L', k', n'⟩, -, X', hS', gr, ⟨Lc, hQ, h1, h2, h3⟩, st⟩ := X.virtualBackS (g := mkF m pc Ls Ks) hx hown hlink hdecl hnf hsel hinst hy hK q1 q3 hg hsize (Steps.refl _) hlen hstack hW hdg (fun vm₁ hvm => ⟨has, eT, hΦ vm₁ hvm, hc, hsl⟩)
  dsimp only [Pt.U, Pt.locs, Pt.cells, Pt.slots] at X' hQ h1 h2 h3 st hS' gr
  subst h1 h2 h3
  obtain ⟨X2, hS2, hZ2, hown2⟩ := rebS hS (Nat.le_trans hk (Nat.le_of_eq (congrArg Array.size eT.symm))) X' hS' gr hZ hown
  exact hG _ _ (fun _ q => st.trans q) (k v T' Lc hQ X2 hS2 hZ2 hown2 (Nat.le_refl _))
theorem gVirtualUpN {own C owner : String} {index : Nat} {x y : MethodName} {b : Addr} {W mc ms : Nat} {as' : Array Value} {Q : Option Value → Heap → List Loc → Prop} {argsL : List Value} (hG : Cl p.tables e below K0) (X : Stand p l e R s m args below meth c T locs cells slots) (hx : p.tables.exec = Jvm.exec) (hZ : Z.Warmed39 s.vm) (hown : s.vm.findClass own = some m.cls) (hlink : (Cond.methodLink own index x).before args s = true) (hsame : (Cond.sameMethod x.cls owner x.name x.desc).before args s = true) (hdecl : (Cond.declares ⟨owner, x.name, x.desc⟩).before args s = true) (howner : owner ≠ "java/lang/invoke/MethodHandle" ∧ owner ≠ "java/lang/invoke/VarHandle") (hsel : (Cond.selects C x y).before args s = true) (hinst : (Cond.instanceMethod y).before args s = true) (E : Exa Z h b C) (hK : Back l R p e below s args y 3 W (fun A a => a = as' ∧ A.U.heap = h ∧ A.cells + mc ≤ R.cells ∧ A.slots + ms ≤ R.slots) (fun A _ v B => ∃ L, Q v B.U.heap L ∧ B.locs = A.locs ++ L ∧ B.cells = A.cells + mc ∧ B.slots = A.slots + ms)) (hg : m = m) (hsize : Ls.size = c.maxLocals) (hlen : ∀ sig, parseMethodDescriptor x.desc = some sig → argsL.length = sig.parameters.length) (hstack : Ks = argsL.reverse ++ .ref b :: rest) (hW : 2 * 0 + (rest.map fun v => v.category).sum ≤ W) (hdg : decode c.code pc = .ok (.invokevirtual index, 3)) (has : (.ref b :: argsL).toArray = as') (eT : T.heap = h) (hc : cells + mc ≤ R.cells) (hsl : slots + ms ≤ R.slots)
    (k : ∀ (v : Option Value) (T' : State) (L : List Loc), Q v T'.heap L → Stand p l e R s m args below meth c T' (locs ++ L) (cells + mc) (slots + ms) → K0 (T'.setTop (mkF m (pc + 3) (Ls) (v.toList ++ rest)))) : K0 (T.setTop (mkF m pc Ls Ks)) := by
  obtain ⟨cq, kq, q1, q2, q3⟩ := isOf hZ eT E
  obtain ⟨v, vm₁, ⟨T', L', k', n'⟩, -, X', ⟨Lc, hQ, h1, h2, h3⟩, st⟩ := X.virtualBackUp (g := mkF m pc Ls Ks) hx hown hlink hsame hdecl howner hsel hinst hK q1 q3 hg hsize (Steps.refl _) hlen hstack hW hdg (fun vm₁ hvm => ⟨has, eT, hc, hsl⟩)
  dsimp only [Pt.U, Pt.locs, Pt.cells, Pt.slots] at X' hQ h1 h2 h3 st
  subst h1 h2 h3
  exact hG _ _ (fun _ q => st.trans q) (k v T' Lc hQ X')
end Glue
theorem zXS_aconstNull {tb : Tables} [Ours tb] {e : Env} {below : List Frame} {T target : State} {m : MethodId} {c : Code} {pc : Nat} {Ls : Array Slot} {Ks : List Value} (h : At T m c below) (hx : tb.exec = Jvm.exec) (hg : m = m) (hd : decode c.code pc = .ok (.aconst_null, 1)) (hr : Steps tb e below (T.setTop (mkF m (pc + 1) (Ls) (.null :: Ks))) target) : Steps tb e below (T.setTop (mkF m pc Ls Ks)) target :=
  Jvm.Free.XS.aconstNull (g := mkF m pc Ls Ks) h hx hg hd hr
theorem zXS_aload {tb : Tables} [Ours tb] {e : Env} {below : List Frame} {T target : State} {m : MethodId} {c : Code} {pc : Nat} {Ls : Array Slot} {Ks : List Value} (h : At T m c below) (hx : tb.exec = Jvm.exec) (hg : m = m) {k : Nat} {v : Value} (hd : decode c.code pc = .ok (.aload k, 2)) (hl : Ls[k]? = some (.val v)) (hv : v.isRef = true) (hr : Steps tb e below (T.setTop (mkF m (pc + 2) (Ls) (v :: Ks))) target) : Steps tb e below (T.setTop (mkF m pc Ls Ks)) target :=
  Jvm.Free.XS.aload (g := mkF m pc Ls Ks) h hx hg hd hl hv hr
theorem zXS_aloadN {tb : Tables} [Ours tb] {e : Env} {below : List Frame} {T target : State} {m : MethodId} {c : Code} {pc : Nat} {Ls : Array Slot} {Ks : List Value} (h : At T m c below) (hx : tb.exec = Jvm.exec) (hg : m = m) {k : Fin 4} {v : Value} (hd : decode c.code pc = .ok (.aload_n k, 1)) (hl : Ls[k.val]? = some (.val v)) (hv : v.isRef = true) (hr : Steps tb e below (T.setTop (mkF m (pc + 1) (Ls) (v :: Ks))) target) : Steps tb e below (T.setTop (mkF m pc Ls Ks)) target :=
  Jvm.Free.XS.aloadN (g := mkF m pc Ls Ks) h hx hg hd hl hv hr
theorem zXS_astore {tb : Tables} [Ours tb] {e : Env} {below : List Frame} {T target : State} {m : MethodId} {c : Code} {pc : Nat} {Ls : Array Slot} {Ks : List Value} (h : At T m c below) (hx : tb.exec = Jvm.exec) (hg : m = m) {k : Nat} {x : Value} {rest : List Value} {l' : Array Slot} (hd : decode c.code pc = .ok (.astore k, 2)) (hs : Ks = x :: rest) (hv : x.isRef = true) (hl : storeLocals Ls k x = some l') (hr : Steps tb e below (T.setTop (mkF m (pc + 2) (l') (rest))) target) : Steps tb e below (T.setTop (mkF m pc Ls Ks)) target :=
  Jvm.Free.XS.astore (g := mkF m pc Ls Ks) h hx hg hd hs hv hl hr
theorem zXS_astoreN {tb : Tables} [Ours tb] {e : Env} {below : List Frame} {T target : State} {m : MethodId} {c : Code} {pc : Nat} {Ls : Array Slot} {Ks : List Value} (h : At T m c below) (hx : tb.exec = Jvm.exec) (hg : m = m) {k : Fin 4} {x : Value} {rest : List Value} {l' : Array Slot} (hd : decode c.code pc = .ok (.astore_n k, 1)) (hs : Ks = x :: rest) (hv : x.isRef = true) (hl : storeLocals Ls k.val x = some l') (hr : Steps tb e below (T.setTop (mkF m (pc + 1) (l') (rest))) target) : Steps tb e below (T.setTop (mkF m pc Ls Ks)) target :=
  Jvm.Free.XS.astoreN (g := mkF m pc Ls Ks) h hx hg hd hs hv hl hr
theorem zXS_bipush {tb : Tables} [Ours tb] {e : Env} {below : List Frame} {T target : State} {m : MethodId} {c : Code} {pc : Nat} {Ls : Array Slot} {Ks : List Value} (h : At T m c below) (hx : tb.exec = Jvm.exec) (hg : m = m) {i : Int} (hd : decode c.code pc = .ok (.bipush i, 2)) (hr : Steps tb e below (T.setTop (mkF m (pc + 2) (Ls) (.int (Int8.ofInt i).toInt32 :: Ks))) target) : Steps tb e below (T.setTop (mkF m pc Ls Ks)) target :=
  Jvm.Free.XS.bipush (g := mkF m pc Ls Ks) h hx hg hd hr
theorem zXS_dup {tb : Tables} [Ours tb] {e : Env} {below : List Frame} {T target : State} {m : MethodId} {c : Code} {pc : Nat} {Ls : Array Slot} {Ks : List Value} (h : At T m c below) (hx : tb.exec = Jvm.exec) (hg : m = m) {x : Value} {rest : List Value} (hd : decode c.code pc = .ok (.dup, 1)) (hs : Ks = x :: rest) (hc : x.category = 1) (hr : Steps tb e below (T.setTop (mkF m (pc + 1) (Ls) (x :: x :: rest))) target) : Steps tb e below (T.setTop (mkF m pc Ls Ks)) target :=
  Jvm.Free.XS.dup (g := mkF m pc Ls Ks) h hx hg hd hs hc hr
theorem zXS_goto {tb : Tables} [Ours tb] {e : Env} {below : List Frame} {T target : State} {m : MethodId} {c : Code} {pc : Nat} {Ls : Array Slot} {Ks : List Value} (h : At T m c below) (hx : tb.exec = Jvm.exec) (hg : m = m) {o : Int} {pc0 pc' : Nat} (hpc : pc = pc0) (hd : decode c.code pc = .ok (.goto o, 3)) (ho : 0 ≤ (pc0 : Int) + o) (hp : ((pc0 : Int) + o).toNat = pc') (hr : Steps tb e below (T.setTop (mkF m (pc') (Ls) (Ks))) target) : Steps tb e below (T.setTop (mkF m pc Ls Ks)) target :=
  Jvm.Free.XS.goto (g := mkF m pc Ls Ks) h hx hg hpc hd ho hp hr
theorem zXS_iadd {tb : Tables} [Ours tb] {e : Env} {below : List Frame} {T target : State} {m : MethodId} {c : Code} {pc : Nat} {Ls : Array Slot} {Ks : List Value} (h : At T m c below) (hx : tb.exec = Jvm.exec) (hg : m = m) {x y : Int32} {rest : List Value} (hd : decode c.code pc = .ok (.iadd, 1)) (hs : Ks = .int y :: .int x :: rest) (hr : Steps tb e below (T.setTop (mkF m (pc + 1) (Ls) (.int (x + y) :: rest))) target) : Steps tb e below (T.setTop (mkF m pc Ls Ks)) target :=
  Jvm.Free.XS.iadd (g := mkF m pc Ls Ks) h hx hg hd hs hr
theorem zXS_iand {tb : Tables} [Ours tb] {e : Env} {below : List Frame} {T target : State} {m : MethodId} {c : Code} {pc : Nat} {Ls : Array Slot} {Ks : List Value} (h : At T m c below) (hx : tb.exec = Jvm.exec) (hg : m = m) {x y : Int32} {rest : List Value} (hd : decode c.code pc = .ok (.iand, 1)) (hs : Ks = .int y :: .int x :: rest) (hr : Steps tb e below (T.setTop (mkF m (pc + 1) (Ls) (.int (x &&& y) :: rest))) target) : Steps tb e below (T.setTop (mkF m pc Ls Ks)) target :=
  Jvm.Free.XS.iand (g := mkF m pc Ls Ks) h hx hg hd hs hr
theorem zXS_icmpNo {tb : Tables} [Ours tb] {e : Env} {below : List Frame} {T target : State} {m : MethodId} {c : Code} {pc : Nat} {Ls : Array Slot} {Ks : List Value} (h : At T m c below) (hx : tb.exec = Jvm.exec) (hg : m = m) {cd : ClassFile.Cond} {o : Int} {x y : Int32} {rest : List Value} (hd : decode c.code pc = .ok (.if_icmp cd o, 3)) (hs : Ks = .int y :: .int x :: rest) (hc : if_icmp.holds cd x y = false) (hr : Steps tb e below (T.setTop (mkF m (pc + 3) (Ls) (rest))) target) : Steps tb e below (T.setTop (mkF m pc Ls Ks)) target :=
  Jvm.Free.XS.icmpNo (g := mkF m pc Ls Ks) h hx hg hd hs hc hr
theorem zXS_icmpYes {tb : Tables} [Ours tb] {e : Env} {below : List Frame} {T target : State} {m : MethodId} {c : Code} {pc : Nat} {Ls : Array Slot} {Ks : List Value} (h : At T m c below) (hx : tb.exec = Jvm.exec) (hg : m = m) {cd : ClassFile.Cond} {x y : Int32} {rest : List Value} {o : Int} {pc0 pc' : Nat} (hpc : pc = pc0) (hd : decode c.code pc = .ok (.if_icmp cd o, 3)) (hs : Ks = .int y :: .int x :: rest) (hc : if_icmp.holds cd x y = true) (ho : 0 ≤ (pc0 : Int) + o) (hp : ((pc0 : Int) + o).toNat = pc') (hr : Steps tb e below (T.setTop (mkF m (pc') (Ls) (rest))) target) : Steps tb e below (T.setTop (mkF m pc Ls Ks)) target :=
  Jvm.Free.XS.icmpYes (g := mkF m pc Ls Ks) h hx hg hpc hd hs hc ho hp hr
theorem zXS_iconst {tb : Tables} [Ours tb] {e : Env} {below : List Frame} {T target : State} {m : MethodId} {c : Code} {pc : Nat} {Ls : Array Slot} {Ks : List Value} (h : At T m c below) (hx : tb.exec = Jvm.exec) (hg : m = m) {i : Int} (hd : decode c.code pc = .ok (.iconst i, 1)) (hr : Steps tb e below (T.setTop (mkF m (pc + 1) (Ls) (.int (Int32.ofInt i) :: Ks))) target) : Steps tb e below (T.setTop (mkF m pc Ls Ks)) target :=
  Jvm.Free.XS.iconst (g := mkF m pc Ls Ks) h hx hg hd hr
theorem zXS_ifNo {tb : Tables} [Ours tb] {e : Env} {below : List Frame} {T target : State} {m : MethodId} {c : Code} {pc : Nat} {Ls : Array Slot} {Ks : List Value} (h : At T m c below) (hx : tb.exec = Jvm.exec) (hg : m = m) {cd : ClassFile.Cond} {o : Int} {x : Int32} {rest : List Value} (hd : decode c.code pc = .ok (.ifCond cd o, 3)) (hs : Ks = .int x :: rest) (hc : ifCond.holds cd x = false) (hr : Steps tb e below (T.setTop (mkF m (pc + 3) (Ls) (rest))) target) : Steps tb e below (T.setTop (mkF m pc Ls Ks)) target :=
  Jvm.Free.XS.ifNo (g := mkF m pc Ls Ks) h hx hg hd hs hc hr
theorem zXS_ifYes {tb : Tables} [Ours tb] {e : Env} {below : List Frame} {T target : State} {m : MethodId} {c : Code} {pc : Nat} {Ls : Array Slot} {Ks : List Value} (h : At T m c below) (hx : tb.exec = Jvm.exec) (hg : m = m) {cd : ClassFile.Cond} {x : Int32} {rest : List Value} {o : Int} {pc0 pc' : Nat} (hpc : pc = pc0) (hd : decode c.code pc = .ok (.ifCond cd o, 3)) (hs : Ks = .int x :: rest) (hc : ifCond.holds cd x = true) (ho : 0 ≤ (pc0 : Int) + o) (hp : ((pc0 : Int) + o).toNat = pc') (hr : Steps tb e below (T.setTop (mkF m (pc') (Ls) (rest))) target) : Steps tb e below (T.setTop (mkF m pc Ls Ks)) target :=
  Jvm.Free.XS.ifYes (g := mkF m pc Ls Ks) h hx hg hpc hd hs hc ho hp hr
theorem zXS_iinc {tb : Tables} [Ours tb] {e : Env} {below : List Frame} {T target : State} {m : MethodId} {c : Code} {pc : Nat} {Ls : Array Slot} {Ks : List Value} (h : At T m c below) (hx : tb.exec = Jvm.exec) (hg : m = m) {k : Nat} {cst : Int} {x : Int32} {l' : Array Slot} (hd : decode c.code pc = .ok (.iinc k cst, 3)) (hl : Ls[k]? = some (.val (.int x))) (hl' : storeLocals Ls k (.int (x + Int32.ofInt cst)) = some l') (hr : Steps tb e below (T.setTop (mkF m (pc + 3) (l') (Ks))) target) : Steps tb e below (T.setTop (mkF m pc Ls Ks)) target :=
  Jvm.Free.XS.iinc (g := mkF m pc Ls Ks) h hx hg hd hl hl' hr
theorem zXS_iload {tb : Tables} [Ours tb] {e : Env} {below : List Frame} {T target : State} {m : MethodId} {c : Code} {pc : Nat} {Ls : Array Slot} {Ks : List Value} (h : At T m c below) (hx : tb.exec = Jvm.exec) (hg : m = m) {k : Nat} {v : Int32} (hd : decode c.code pc = .ok (.iload k, 2)) (hl : Ls[k]? = some (.val (.int v))) (hr : Steps tb e below (T.setTop (mkF m (pc + 2) (Ls) (.int v :: Ks))) target) : Steps tb e below (T.setTop (mkF m pc Ls Ks)) target :=
  Jvm.Free.XS.iload (g := mkF m pc Ls Ks) h hx hg hd hl hr
theorem zXS_iloadN {tb : Tables} [Ours tb] {e : Env} {below : List Frame} {T target : State} {m : MethodId} {c : Code} {pc : Nat} {Ls : Array Slot} {Ks : List Value} (h : At T m c below) (hx : tb.exec = Jvm.exec) (hg : m = m) {k : Fin 4} {v : Int32} (hd : decode c.code pc = .ok (.iload_n k, 1)) (hl : Ls[k.val]? = some (.val (.int v))) (hr : Steps tb e below (T.setTop (mkF m (pc + 1) (Ls) (.int v :: Ks))) target) : Steps tb e below (T.setTop (mkF m pc Ls Ks)) target :=
  Jvm.Free.XS.iloadN (g := mkF m pc Ls Ks) h hx hg hd hl hr
theorem zXS_istore {tb : Tables} [Ours tb] {e : Env} {below : List Frame} {T target : State} {m : MethodId} {c : Code} {pc : Nat} {Ls : Array Slot} {Ks : List Value} (h : At T m c below) (hx : tb.exec = Jvm.exec) (hg : m = m) {k : Nat} {x : Int32} {rest : List Value} {l' : Array Slot} (hd : decode c.code pc = .ok (.istore k, 2)) (hs : Ks = .int x :: rest) (hl : storeLocals Ls k (.int x) = some l') (hr : Steps tb e below (T.setTop (mkF m (pc + 2) (l') (rest))) target) : Steps tb e below (T.setTop (mkF m pc Ls Ks)) target :=
  Jvm.Free.XS.istore (g := mkF m pc Ls Ks) h hx hg hd hs hl hr
theorem zXS_istoreN {tb : Tables} [Ours tb] {e : Env} {below : List Frame} {T target : State} {m : MethodId} {c : Code} {pc : Nat} {Ls : Array Slot} {Ks : List Value} (h : At T m c below) (hx : tb.exec = Jvm.exec) (hg : m = m) {k : Fin 4} {x : Int32} {rest : List Value} {l' : Array Slot} (hd : decode c.code pc = .ok (.istore_n k, 1)) (hs : Ks = .int x :: rest) (hl : storeLocals Ls k.val (.int x) = some l') (hr : Steps tb e below (T.setTop (mkF m (pc + 1) (l') (rest))) target) : Steps tb e below (T.setTop (mkF m pc Ls Ks)) target :=
  Jvm.Free.XS.istoreN (g := mkF m pc Ls Ks) h hx hg hd hs hl hr
theorem zXS_isub {tb : Tables} [Ours tb] {e : Env} {below : List Frame} {T target : State} {m : MethodId} {c : Code} {pc : Nat} {Ls : Array Slot} {Ks : List Value} (h : At T m c below) (hx : tb.exec = Jvm.exec) (hg : m = m) {x y : Int32} {rest : List Value} (hd : decode c.code pc = .ok (.isub, 1)) (hs : Ks = .int y :: .int x :: rest) (hr : Steps tb e below (T.setTop (mkF m (pc + 1) (Ls) (.int (x - y) :: rest))) target) : Steps tb e below (T.setTop (mkF m pc Ls Ks)) target :=
  Jvm.Free.XS.isub (g := mkF m pc Ls Ks) h hx hg hd hs hr
theorem zXT_dupX1 {tb : Tables} [Ours tb] {e : Env} {below : List Frame} {T target : State} {m : MethodId} {c : Code} {pc : Nat} {Ls : Array Slot} {Ks : List Value} (h : At T m c below) (hx : tb.exec = Jvm.exec) (hg : m = m) {x y : Value} {rest : List Value} (hd : decode c.code pc = .ok (.dup_x1, 1)) (hs : Ks = x :: y :: rest) (hc : x.category = 1) (hc' : y.category = 1) (hr : Steps tb e below (T.setTop (mkF m (pc + 1) (Ls) (x :: y :: x :: rest))) target) : Steps tb e below (T.setTop (mkF m pc Ls Ks)) target :=
  Jvm.Free.XT.dupX1 (g := mkF m pc Ls Ks) h hx hg hd hs hc hc' hr
theorem zXT_ishl {tb : Tables} [Ours tb] {e : Env} {below : List Frame} {T target : State} {m : MethodId} {c : Code} {pc : Nat} {Ls : Array Slot} {Ks : List Value} (h : At T m c below) (hx : tb.exec = Jvm.exec) (hg : m = m) {x y : Int32} {rest : List Value} (hd : decode c.code pc = .ok (.ishl, 1)) (hs : Ks = .int y :: .int x :: rest) (hr : Steps tb e below (T.setTop (mkF m (pc + 1) (Ls) (.int (x <<< (y &&& 31)) :: rest))) target) : Steps tb e below (T.setTop (mkF m pc Ls Ks)) target :=
  Jvm.Free.XT.ishl (g := mkF m pc Ls Ks) h hx hg hd hs hr
theorem zXT_ladd {tb : Tables} [Ours tb] {e : Env} {below : List Frame} {T target : State} {m : MethodId} {c : Code} {pc : Nat} {Ls : Array Slot} {Ks : List Value} (h : At T m c below) (hx : tb.exec = Jvm.exec) (hg : m = m) {x y : Int64} {rest : List Value} (hd : decode c.code pc = .ok (.ladd, 1)) (hs : Ks = .long y :: .long x :: rest) (hr : Steps tb e below (T.setTop (mkF m (pc + 1) (Ls) (.long (x + y) :: rest))) target) : Steps tb e below (T.setTop (mkF m pc Ls Ks)) target :=
  Jvm.Free.XT.ladd (g := mkF m pc Ls Ks) h hx hg hd hs hr
theorem zXT_lcmp {tb : Tables} [Ours tb] {e : Env} {below : List Frame} {T target : State} {m : MethodId} {c : Code} {pc : Nat} {Ls : Array Slot} {Ks : List Value} (h : At T m c below) (hx : tb.exec = Jvm.exec) (hg : m = m) {x y : Int64} {rest : List Value} (hd : decode c.code pc = .ok (.lcmp, 1)) (hs : Ks = .long y :: .long x :: rest) (hr : Steps tb e below (T.setTop (mkF m (pc + 1) (Ls) (.int (Jvm.Free.XT.cmpL x y) :: rest))) target) : Steps tb e below (T.setTop (mkF m pc Ls Ks)) target :=
  Jvm.Free.XT.lcmp (g := mkF m pc Ls Ks) h hx hg hd hs hr
theorem zXT_lload {tb : Tables} [Ours tb] {e : Env} {below : List Frame} {T target : State} {m : MethodId} {c : Code} {pc : Nat} {Ls : Array Slot} {Ks : List Value} (h : At T m c below) (hx : tb.exec = Jvm.exec) (hg : m = m) {k : Nat} {v : Int64} (hd : decode c.code pc = .ok (.lload k, 2)) (hl : Ls[k]? = some (.val (.long v))) (hr : Steps tb e below (T.setTop (mkF m (pc + 2) (Ls) (.long v :: Ks))) target) : Steps tb e below (T.setTop (mkF m pc Ls Ks)) target :=
  Jvm.Free.XT.lload (g := mkF m pc Ls Ks) h hx hg hd hl hr
theorem zXT_lloadN {tb : Tables} [Ours tb] {e : Env} {below : List Frame} {T target : State} {m : MethodId} {c : Code} {pc : Nat} {Ls : Array Slot} {Ks : List Value} (h : At T m c below) (hx : tb.exec = Jvm.exec) (hg : m = m) {k : Fin 4} {v : Int64} (hd : decode c.code pc = .ok (.lload_n k, 1)) (hl : Ls[k.val]? = some (.val (.long v))) (hr : Steps tb e below (T.setTop (mkF m (pc + 1) (Ls) (.long v :: Ks))) target) : Steps tb e below (T.setTop (mkF m pc Ls Ks)) target :=
  Jvm.Free.XT.lloadN (g := mkF m pc Ls Ks) h hx hg hd hl hr
theorem zXT_lstore {tb : Tables} [Ours tb] {e : Env} {below : List Frame} {T target : State} {m : MethodId} {c : Code} {pc : Nat} {Ls : Array Slot} {Ks : List Value} (h : At T m c below) (hx : tb.exec = Jvm.exec) (hg : m = m) {k : Nat} {x : Int64} {rest : List Value} {l' : Array Slot} (hd : decode c.code pc = .ok (.lstore k, 2)) (hs : Ks = .long x :: rest) (hl : storeLocals Ls k (.long x) = some l') (hr : Steps tb e below (T.setTop (mkF m (pc + 2) (l') (rest))) target) : Steps tb e below (T.setTop (mkF m pc Ls Ks)) target :=
  Jvm.Free.XT.lstore (g := mkF m pc Ls Ks) h hx hg hd hs hl hr
theorem zXT_lstoreN {tb : Tables} [Ours tb] {e : Env} {below : List Frame} {T target : State} {m : MethodId} {c : Code} {pc : Nat} {Ls : Array Slot} {Ks : List Value} (h : At T m c below) (hx : tb.exec = Jvm.exec) (hg : m = m) {k : Fin 4} {x : Int64} {rest : List Value} {l' : Array Slot} (hd : decode c.code pc = .ok (.lstore_n k, 1)) (hs : Ks = .long x :: rest) (hl : storeLocals Ls k.val (.long x) = some l') (hr : Steps tb e below (T.setTop (mkF m (pc + 1) (l') (rest))) target) : Steps tb e below (T.setTop (mkF m pc Ls Ks)) target :=
  Jvm.Free.XT.lstoreN (g := mkF m pc Ls Ks) h hx hg hd hs hl hr
theorem zRW_iremM {p : Program} {l : Launch} {e : Env} {R : Room} {s : State} {m : MethodId} {args : Array Value} {below : List Frame} {meth : Method} {c : Code} {T : State} {locs : List Loc} {cells slots : Nat} {target : State} {pc : Nat} {Ls : Array Slot} {Ks : List Value} (X : Stand p l e R s m args below meth c T locs cells slots) (hx : p.tables.exec = Jvm.exec) (hg : m = m) {x y : Int32} {rest : List Value} (hd : decode c.code pc = .ok (.irem, 1)) (hs : Ks = .int y :: .int x :: rest) (hy : y ≠ 0) (hr : Steps p.tables e below (T.setTop (mkF m (pc + 1) (Ls) (.int (x % y) :: rest))) target) : Steps p.tables e below (T.setTop (mkF m pc Ls Ks)) target :=
  iremM (g := mkF m pc Ls Ks) X hx hg hd hs hy hr
/-- addresses are told to omega as natural numbers -/
theorem own_ane {a b : Addr} (h : ¬ @Eq Nat a b) : a ≠ b := h
theorem own_anq {a b : Addr} (h : a ≠ b) : ¬ @Eq Nat a b := h
theorem own_ale {n : Nat} {a : Addr} (h : @LE.le Nat instLENat n a) : n ≤ a := h
theorem own_alt {n : Nat} {a : Addr} (h : a < n) : @LT.lt Nat instLTNat a n := h
theorem own_fr_nil {n0 : Nat} {N : List Loc} (h : Fr n0 N) : Fr n0 (N ++ []) := Fr.app h (Fr.nil n0)

theorem own_over {n : String} {a : Array Value} {s : State} (h : (Cond.arrayOver (.object n)).before a s = true) : (Cond.arrayClass (.object n)).before a s = true := by
  simp only [Cond.before, Cond.holds, Cond.value, beq_iff_eq] at h ⊢
  cases hc : s.vm.findClass n with
  | none => simp [hc] at h
  | some comp =>
    simp only [hc, Option.bind_some, Option.bind_eq_some_iff, Option.map_eq_some_iff] at h
    obtain ⟨c, hi, k, hok, hob⟩ := h
    cases hkind : k.kind with
    | array component ty =>
      rw [hkind] at hob
      simp at hob
      simp [hob.2, hok, hkind, hob.1]
    | _ => rw [hkind] at hob; simp at hob
theorem own_rem4 (x : Int32) : (x &&& 2147483647) % 4 = 0 ∨ (x &&& 2147483647) % 4 = 1 ∨ (x &&& 2147483647) % 4 = 2 ∨ (x &&& 2147483647) % 4 = 3 := by
  have h0 := (c_and x 2147483647 (by decide)).1
  have q := (c_irem (x &&& 2147483647) 4 4 rfl).1 h0
  have e0 : (0 : Int32).toInt = 0 := rfl
  have e1 : (1 : Int32).toInt = 1 := rfl
  have e2 : (2 : Int32).toInt = 2 := rfl
  have e3 : (3 : Int32).toInt = 3 := rfl
  simp only [← Int32.toInt_inj]
  omega

def Qins (Z : State) (a : Addr) (h0 : Heap) (n0 : Nat) (v : Option Value) (h : Heap) (L : List Loc) : Prop := v = none ∧ Fr n0 L ∧ h = h0
theorem pn_0 : plainName "java/util/DualPivotQuicksort" = true := by first | (simp [plainName, overriddenIn]; done) | decide +kernel
theorem ef_ins (m : MethodId) (x0 : Addr) (x1 : Int32) (x2 : Int32) : entryFrame m #[(.ref x0), (.int x1), (.int x2)] 7 = mkF m 0 #[.val (.ref x0), .val (.int x1), .val (.int x2), .unset, .unset, .unset, .unset] [] := by first | (simp [entryFrame, mkF, argsToLocals, Value.category]; done) | rfl
theorem d10_0 : decode jdk_2529_method_15_code 0 = .ok (.iload_n 1, 1) := by decide +kernel
theorem d10_1 : decode jdk_2529_method_15_code 1 = .ok (.istore 4, 2) := by decide +kernel
theorem d10_3 : decode jdk_2529_method_15_code 3 = .ok (.iinc 4 1, 3) := by decide +kernel
theorem d10_6 : decode jdk_2529_method_15_code 6 = .ok (.iload 4, 2) := by decide +kernel
theorem d10_8 : decode jdk_2529_method_15_code 8 = .ok (.iload_n 2, 1) := by decide +kernel
theorem d10_9 : decode jdk_2529_method_15_code 9 = .ok (.if_icmp .ge 60, 3) := by decide +kernel
theorem d10_69 : decode jdk_2529_method_15_code 69 = .ok (.return_, 1) := by decide +kernel
set_option maxRecDepth 65536 in
set_option maxHeartbeats 40000000 in
theorem ins (l : Launch) (Z : State) (a0 : Array Value) (hw : ∀ d ∈ tables_1, d.before a0 Z = true) (ws : List Jvm.Cond) (a : Addr) (h0 : Heap) (n0 : Nat) (Z0 : n0 ≤ h0.size) :
    MetFree l (⟨"java/util/DualPivotQuicksort", "insertionSort", "([JII)V"⟩ : MethodName) (head1 (Jvm.Cond.code (⟨"java/util/DualPivotQuicksort", "insertionSort", "([JII)V"⟩ : MethodName) jdk_2529_method_15_code 7 none :: ws) ({ frames := 0, cells := 0, slots := 0, locals := 0 } : Room)) (fun a_ U_ => a_ = #[(.ref a), (.int (0 : Int32)), (.int (1 : Int32))] ∧ Z.Warmed39 U_.vm ∧ U_.heap = h0) (fun _ _ _ _ _ => True) (fun _ U_ o_ V_ => ∃ v_ L_, o_ = .returned v_ ∧ Qins Z a h0 n0 v_ V_.heap L_ ∧ FrameEnd U_ o_ V_ L_ ({ frames := 0, cells := 0, slots := 0, locals := 0 } : Room).cells ({ frames := 0, cells := 0, slots := 0, locals := 0 } : Room).slots) := by
  refine MetFree.of_bodySF (plainFor_of_name pn_0) hisR ?_
  intro p e s m args below meth c s₁ Bd hml0 hP hK
  obtain ⟨rfl, hZ, hh⟩ := hP
  have hx := Bd.exec
  have hby := Bd.bytes
  have hml : c.maxLocals = 7 := hml0
  have hown : s.vm.findClass "java/util/DualPivotQuicksort" = some m.cls := findClass_of_methodNamed Bd.named
  have hnm := (name_of_methodNamed Bd.named Bd.method).1
  have X0 : Stand p l e ({ frames := 0, cells := 0, slots := 0, locals := 0 } : Room) s m #[(.ref a), (.int (0 : Int32)), (.int (1 : Int32))] below meth c s₁ [] 0 0 := Stand.of_body Bd
  have e0 : s₁.heap = h0 := by rw [← hh, Bd.state]; rfl
  have N0 := Fr.nil n0
  refine Gl.go (A := s₁.setTop (entryFrame m #[(.ref a), (.int (0 : Int32)), (.int (1 : Int32))] 7)) (P := fun o_ U_ => ∃ v_ L_, o_ = .returned v_ ∧ Qins Z a h0 n0 v_ U_.heap L_ ∧ FrameEnd s o_ U_ L_ ({ frames := 0, cells := 0, slots := 0, locals := 0 } : Room).cells ({ frames := 0, cells := 0, slots := 0, locals := 0 } : Room).slots) (fun t_ k_ => castTop (ef_ins m a (0 : Int32) (1 : Int32)) k_) ?_
  show Gl p.tables e below _ (s₁.setTop (mkF m 0 #[.val (.ref a), .val (.int (0 : Int32)), .val (.int (1 : Int32)), .unset, .unset, .unset, .unset] []))
  refine Gl.go (fun _ hr => zXS_iloadN X0.here hx rfl (hb hby d10_0) rfl (zXS_istore X0.here hx rfl (hb hby d10_1) rfl (l' := #[.val (.ref a), .val (.int (0 : Int32)), .val (.int (1 : Int32)), .unset, .val (.int (0 : Int32)), .unset, .unset]) rfl (zXS_iinc X0.here hx rfl (hb hby d10_3) rfl (l' := #[.val (.ref a), .val (.int (0 : Int32)), .val (.int (1 : Int32)), .unset, .val (.int (1 : Int32)), .unset, .unset]) rfl (zXS_iload X0.here hx rfl (hb hby d10_6) rfl (zXS_iloadN X0.here hx rfl (hb hby d10_8) rfl (zXS_icmpYes X0.here hx rfl (pc0 := 9) (pc' := 69) rfl (hb hby d10_9) rfl (XT.ii_ge_t (by decide)) (by decide) (by decide) hr)))))) ?_
  obtain ⟨fs, hr, hrun, hended, hW, hsame⟩ := X0.leave (v := none) (fun _ => rfl)
  refine ⟨_, _, X0.returnOut hx Bd.returns (hb hby d10_69) hr, hrun, hended, _, _, rfl, ?_, ⟨⟨_, rfl⟩, hW, hsame.mono (by decide) (by decide)⟩⟩
  show Qins Z a h0 n0 _ s₁.heap _
  rw [e0]
  exact ⟨rfl, N0, rfl⟩
def Qdq5 (Z : State) (a : Addr) (h0 : Heap) (n0 : Nat) (v : Option Value) (h : Heap) (L : List Loc) : Prop := v = none ∧ Fr n0 L ∧ h = h0
theorem ef_dq5 (m : MethodId) (x1 : Addr) (x2 : Int32) (x3 : Int32) (x4 : Int32) : entryFrame m #[.null, (.ref x1), (.int x2), (.int x3), (.int x4)] 25 = mkF m 0 #[.val .null, .val (.ref x1), .val (.int x2), .val (.int x3), .val (.int x4), .unset, .unset, .unset, .unset, .unset, .unset, .unset, .unset, .unset, .unset, .unset, .unset, .unset, .unset, .unset, .unset, .unset, .unset, .unset, .unset] [] := by first | (simp [entryFrame, mkF, argsToLocals, Value.category]; done) | rfl
theorem d9_0 : decode jdk_2529_method_13_code 0 = .ok (.iload 4, 2) := by decide +kernel
theorem d9_2 : decode jdk_2529_method_13_code 2 = .ok (.iconst 1, 1) := by decide +kernel
theorem d9_3 : decode jdk_2529_method_13_code 3 = .ok (.isub, 1) := by decide +kernel
theorem d9_4 : decode jdk_2529_method_13_code 4 = .ok (.istore 5, 2) := by decide +kernel
theorem d9_6 : decode jdk_2529_method_13_code 6 = .ok (.iload 4, 2) := by decide +kernel
theorem d9_8 : decode jdk_2529_method_13_code 8 = .ok (.iload_n 3, 1) := by decide +kernel
theorem d9_9 : decode jdk_2529_method_13_code 9 = .ok (.isub, 1) := by decide +kernel
theorem d9_10 : decode jdk_2529_method_13_code 10 = .ok (.istore 6, 2) := by decide +kernel
theorem d9_12 : decode jdk_2529_method_13_code 12 = .ok (.iload 6, 2) := by decide +kernel
theorem d9_14 : decode jdk_2529_method_13_code 14 = .ok (.bipush 65, 2) := by decide +kernel
theorem d9_16 : decode jdk_2529_method_13_code 16 = .ok (.iload_n 2, 1) := by decide +kernel
theorem d9_17 : decode jdk_2529_method_13_code 17 = .ok (.iadd, 1) := by decide +kernel
theorem d9_18 : decode jdk_2529_method_13_code 18 = .ok (.if_icmp .ge 28, 3) := by decide +kernel
theorem d9_21 : decode jdk_2529_method_13_code 21 = .ok (.iload_n 2, 1) := by decide +kernel
theorem d9_22 : decode jdk_2529_method_13_code 22 = .ok (.iconst 1, 1) := by decide +kernel
theorem d9_23 : decode jdk_2529_method_13_code 23 = .ok (.iand, 1) := by decide +kernel
theorem d9_24 : decode jdk_2529_method_13_code 24 = .ok (.ifCond .le 22, 3) := by decide +kernel
theorem d9_46 : decode jdk_2529_method_13_code 46 = .ok (.iload 6, 2) := by decide +kernel
theorem d9_48 : decode jdk_2529_method_13_code 48 = .ok (.bipush 44, 2) := by decide +kernel
theorem d9_50 : decode jdk_2529_method_13_code 50 = .ok (.if_icmp .ge 11, 3) := by decide +kernel
theorem d9_53 : decode jdk_2529_method_13_code 53 = .ok (.aload_n 1, 1) := by decide +kernel
theorem d9_54 : decode jdk_2529_method_13_code 54 = .ok (.iload_n 3, 1) := by decide +kernel
theorem d9_55 : decode jdk_2529_method_13_code 55 = .ok (.iload 4, 2) := by decide +kernel
theorem d9_57 : decode jdk_2529_method_13_code 57 = .ok (.invokestatic 105, 3) := by decide +kernel
theorem pd_0 : parseMethodDescriptor "([JII)V" = some ⟨[(.array .long), .int, .int], none⟩ := by decide +kernel
theorem d9_60 : decode jdk_2529_method_13_code 60 = .ok (.return_, 1) := by decide +kernel
set_option maxRecDepth 65536 in
set_option maxHeartbeats 40000000 in
theorem dq5 (l : Launch) (Z : State) (a0 : Array Value) (hw : ∀ d ∈ tables_1, d.before a0 Z = true) (ws : List Jvm.Cond) (a : Addr) (h0 : Heap) (n0 : Nat) (Z0 : n0 ≤ h0.size) :
    MetFree l (⟨"java/util/DualPivotQuicksort", "sort", "(Ljava/util/DualPivotQuicksort$Sorter;[JIII)V"⟩ : MethodName) (head1 (Jvm.Cond.code (⟨"java/util/DualPivotQuicksort", "sort", "(Ljava/util/DualPivotQuicksort$Sorter;[JIII)V"⟩ : MethodName) jdk_2529_method_13_code 25 none :: ws) ({ frames := 1, cells := 0, slots := 0, locals := 18 } : Room)) (fun a_ U_ => a_ = #[.null, (.ref a), (.int (0 : Int32)), (.int (0 : Int32)), (.int (1 : Int32))] ∧ Z.Warmed39 U_.vm ∧ U_.heap = h0) (fun _ _ _ _ _ => True) (fun _ U_ o_ V_ => ∃ v_ L_, o_ = .returned v_ ∧ Qdq5 Z a h0 n0 v_ V_.heap L_ ∧ FrameEnd U_ o_ V_ L_ ({ frames := 1, cells := 0, slots := 0, locals := 18 } : Room).cells ({ frames := 1, cells := 0, slots := 0, locals := 18 } : Room).slots) := by
  refine MetFree.of_bodySF (plainFor_of_name pn_0) hisR ?_
  intro p e s m args below meth c s₁ Bd hml0 hP hK
  obtain ⟨rfl, hZ, hh⟩ := hP
  have hx := Bd.exec
  have hby := Bd.bytes
  have hml : c.maxLocals = 25 := hml0
  have hown : s.vm.findClass "java/util/DualPivotQuicksort" = some m.cls := findClass_of_methodNamed Bd.named
  have hnm := (name_of_methodNamed Bd.named Bd.method).1
  have X0 : Stand p l e ({ frames := 1, cells := 0, slots := 0, locals := 18 } : Room) s m #[.null, (.ref a), (.int (0 : Int32)), (.int (0 : Int32)), (.int (1 : Int32))] below meth c s₁ [] 0 0 := Stand.of_body Bd
  have e0 : s₁.heap = h0 := by rw [← hh, Bd.state]; rfl
  have N0 := Fr.nil n0
  refine Gl.go (A := s₁.setTop (entryFrame m #[.null, (.ref a), (.int (0 : Int32)), (.int (0 : Int32)), (.int (1 : Int32))] 25)) (P := fun o_ U_ => ∃ v_ L_, o_ = .returned v_ ∧ Qdq5 Z a h0 n0 v_ U_.heap L_ ∧ FrameEnd s o_ U_ L_ ({ frames := 1, cells := 0, slots := 0, locals := 18 } : Room).cells ({ frames := 1, cells := 0, slots := 0, locals := 18 } : Room).slots) (fun t_ k_ => castTop (ef_dq5 m a (0 : Int32) (0 : Int32) (1 : Int32)) k_) ?_
  show Gl p.tables e below _ (s₁.setTop (mkF m 0 #[.val .null, .val (.ref a), .val (.int (0 : Int32)), .val (.int (0 : Int32)), .val (.int (1 : Int32)), .unset, .unset, .unset, .unset, .unset, .unset, .unset, .unset, .unset, .unset, .unset, .unset, .unset, .unset, .unset, .unset, .unset, .unset, .unset, .unset] []))
  refine Gl.go (fun _ hr => zXS_iload X0.here hx rfl (hb hby d9_0) rfl (zXS_iconst X0.here hx rfl (hb hby d9_2) (zXS_isub X0.here hx rfl (hb hby d9_3) rfl (zXS_istore X0.here hx rfl (hb hby d9_4) rfl (l' := #[.val .null, .val (.ref a), .val (.int (0 : Int32)), .val (.int (0 : Int32)), .val (.int (1 : Int32)), .val (.int (0 : Int32)), .unset, .unset, .unset, .unset, .unset, .unset, .unset, .unset, .unset, .unset, .unset, .unset, .unset, .unset, .unset, .unset, .unset, .unset, .unset]) rfl (zXS_iload X0.here hx rfl (hb hby d9_6) rfl (zXS_iloadN X0.here hx rfl (hb hby d9_8) rfl (zXS_isub X0.here hx rfl (hb hby d9_9) rfl (zXS_istore X0.here hx rfl (hb hby d9_10) rfl (l' := #[.val .null, .val (.ref a), .val (.int (0 : Int32)), .val (.int (0 : Int32)), .val (.int (1 : Int32)), .val (.int (0 : Int32)), .val (.int (1 : Int32)), .unset, .unset, .unset, .unset, .unset, .unset, .unset, .unset, .unset, .unset, .unset, .unset, .unset, .unset, .unset, .unset, .unset, .unset]) rfl (zXS_iload X0.here hx rfl (hb hby d9_12) rfl (zXS_bipush X0.here hx rfl (hb hby d9_14) hr)))))))))) ?_
  refine Gl.go (fun _ hr => zXS_iloadN X0.here hx rfl (hb hby d9_16) rfl (zXS_iadd X0.here hx rfl (hb hby d9_17) rfl (zXS_icmpNo X0.here hx rfl (hb hby d9_18) rfl (XT.ii_ge_f (by decide)) (zXS_iloadN X0.here hx rfl (hb hby d9_21) rfl (zXS_iconst X0.here hx rfl (hb hby d9_22) (zXS_iand X0.here hx rfl (hb hby d9_23) rfl (zXS_ifYes X0.here hx rfl (pc0 := 24) (pc' := 46) rfl (hb hby d9_24) rfl (XT.i0_le_t (by decide)) (by decide) (by decide) (zXS_iload X0.here hx rfl (hb hby d9_46) rfl (zXS_bipush X0.here hx rfl (hb hby d9_48) (zXS_icmpNo X0.here hx rfl (hb hby d9_50) rfl (XT.ii_ge_f (by decide)) hr)))))))))) ?_
  refine Gl.go (fun _ hr => zXS_aloadN X0.here hx rfl (hb hby d9_53) rfl rfl (zXS_iloadN X0.here hx rfl (hb hby d9_54) rfl (zXS_iload X0.here hx rfl (hb hby d9_55) rfl hr))) ?_
  have zz1 : n0 ≤ h0.size := by omega
  refine gStaticN Gl.cl (y := (⟨"java/util/DualPivotQuicksort", "insertionSort", "([JII)V"⟩ : MethodName)) (argsL := [(.ref a), (.int (0 : Int32)), (.int (1 : Int32))]) (rest := []) (mc := 0) (ms := 0) X0 hx hZ hown (mvT hZ (hw _ (List.mem_of_getElem? (i := 70) rfl))) (mvT hZ (hw _ (List.mem_of_getElem? (i := 71) rfl))) (mvT hZ (hw _ (List.mem_of_getElem? (i := 65) rfl))) (mvT hZ (hw _ (List.mem_of_getElem? (i := 72) rfl))) (by decide) (backOf (W := 0) (ins l Z a0 hw [] a h0 n0 zz1 ) hZ (hw _ (List.mem_of_getElem? (i := 72) rfl)) (hw _ (List.mem_of_getElem? (i := 65) rfl)) (by decide) (by decide)) rfl (by rw [hml]; rfl) (lenOf pd_0 rfl) rfl (by show 2 * 0 + _ ≤ _; exact Nat.le_of_eq rfl) (hb hby d9_57) rfl e0 (by decide) (by decide) ?_
  intro v1 T1 Lc1 hQ1 X1
  obtain ⟨rfl, Nq1, e1⟩ := hQ1
  have N1 := Fr.app N0 Nq1
  obtain ⟨fs, hr, hrun, hended, hW, hsame⟩ := X1.leave (v := none) (fun _ => rfl)
  refine ⟨_, _, X1.returnOut hx Bd.returns (hb hby d9_60) hr, hrun, hended, _, _, rfl, ?_, ⟨⟨_, rfl⟩, hW, hsame.mono (by decide) (by decide)⟩⟩
  show Qdq5 Z a h0 n0 _ T1.heap _
  rw [e1]
  exact ⟨rfl, N1, rfl⟩
def Qdq4 (Z : State) (a : Addr) (h0 : Heap) (n0 : Nat) (v : Option Value) (h : Heap) (L : List Loc) : Prop := v = none ∧ Fr n0 L ∧ h = h0
theorem ef_dq4 (m : MethodId) (x0 : Addr) (x1 : Int32) (x2 : Int32) (x3 : Int32) : entryFrame m #[(.ref x0), (.int x1), (.int x2), (.int x3)] 7 = mkF m 0 #[.val (.ref x0), .val (.int x1), .val (.int x2), .val (.int x3), .unset, .unset, .unset] [] := by first | (simp [entryFrame, mkF, argsToLocals, Value.category]; done) | rfl
theorem d8_0 : decode jdk_2529_method_12_code 0 = .ok (.iload_n 3, 1) := by decide +kernel
theorem d8_1 : decode jdk_2529_method_12_code 1 = .ok (.iload_n 2, 1) := by decide +kernel
theorem d8_2 : decode jdk_2529_method_12_code 2 = .ok (.isub, 1) := by decide +kernel
theorem d8_3 : decode jdk_2529_method_12_code 3 = .ok (.istore 4, 2) := by decide +kernel
theorem d8_5 : decode jdk_2529_method_12_code 5 = .ok (.iload_n 1, 1) := by decide +kernel
theorem d8_6 : decode jdk_2529_method_12_code 6 = .ok (.iconst 1, 1) := by decide +kernel
theorem d8_7 : decode jdk_2529_method_12_code 7 = .ok (.if_icmp .le 61, 3) := by decide +kernel
theorem d8_68 : decode jdk_2529_method_12_code 68 = .ok (.aconst_null, 1) := by decide +kernel
theorem d8_69 : decode jdk_2529_method_12_code 69 = .ok (.aload_n 0, 1) := by decide +kernel
theorem d8_70 : decode jdk_2529_method_12_code 70 = .ok (.iconst 0, 1) := by decide +kernel
theorem d8_71 : decode jdk_2529_method_12_code 71 = .ok (.iload_n 2, 1) := by decide +kernel
theorem d8_72 : decode jdk_2529_method_12_code 72 = .ok (.iload_n 3, 1) := by decide +kernel
theorem d8_73 : decode jdk_2529_method_12_code 73 = .ok (.invokestatic 99, 3) := by decide +kernel
theorem pd_1 : parseMethodDescriptor "(Ljava/util/DualPivotQuicksort$Sorter;[JIII)V" = some ⟨[(.object "java/util/DualPivotQuicksort$Sorter"), (.array .long), .int, .int, .int], none⟩ := by decide +kernel
theorem d8_76 : decode jdk_2529_method_12_code 76 = .ok (.return_, 1) := by decide +kernel
set_option maxRecDepth 65536 in
set_option maxHeartbeats 40000000 in
theorem dq4 (l : Launch) (Z : State) (a0 : Array Value) (hw : ∀ d ∈ tables_1, d.before a0 Z = true) (ws : List Jvm.Cond) (a : Addr) (h0 : Heap) (n0 : Nat) (Z0 : n0 ≤ h0.size) :
    MetFree l (⟨"java/util/DualPivotQuicksort", "sort", "([JIII)V"⟩ : MethodName) (head1 (Jvm.Cond.code (⟨"java/util/DualPivotQuicksort", "sort", "([JIII)V"⟩ : MethodName) jdk_2529_method_12_code 7 none :: ws) ({ frames := 2, cells := 0, slots := 0, locals := 54 } : Room)) (fun a_ U_ => a_ = #[(.ref a), (.int (0 : Int32)), (.int (0 : Int32)), (.int (1 : Int32))] ∧ Z.Warmed39 U_.vm ∧ U_.heap = h0) (fun _ _ _ _ _ => True) (fun _ U_ o_ V_ => ∃ v_ L_, o_ = .returned v_ ∧ Qdq4 Z a h0 n0 v_ V_.heap L_ ∧ FrameEnd U_ o_ V_ L_ ({ frames := 2, cells := 0, slots := 0, locals := 54 } : Room).cells ({ frames := 2, cells := 0, slots := 0, locals := 54 } : Room).slots) := by
  refine MetFree.of_bodySF (plainFor_of_name pn_0) hisR ?_
  intro p e s m args below meth c s₁ Bd hml0 hP hK
  obtain ⟨rfl, hZ, hh⟩ := hP
  have hx := Bd.exec
  have hby := Bd.bytes
  have hml : c.maxLocals = 7 := hml0
  have hown : s.vm.findClass "java/util/DualPivotQuicksort" = some m.cls := findClass_of_methodNamed Bd.named
  have hnm := (name_of_methodNamed Bd.named Bd.method).1
  have X0 : Stand p l e ({ frames := 2, cells := 0, slots := 0, locals := 54 } : Room) s m #[(.ref a), (.int (0 : Int32)), (.int (0 : Int32)), (.int (1 : Int32))] below meth c s₁ [] 0 0 := Stand.of_body Bd
  have e0 : s₁.heap = h0 := by rw [← hh, Bd.state]; rfl
  have N0 := Fr.nil n0
  refine Gl.go (A := s₁.setTop (entryFrame m #[(.ref a), (.int (0 : Int32)), (.int (0 : Int32)), (.int (1 : Int32))] 7)) (P := fun o_ U_ => ∃ v_ L_, o_ = .returned v_ ∧ Qdq4 Z a h0 n0 v_ U_.heap L_ ∧ FrameEnd s o_ U_ L_ ({ frames := 2, cells := 0, slots := 0, locals := 54 } : Room).cells ({ frames := 2, cells := 0, slots := 0, locals := 54 } : Room).slots) (fun t_ k_ => castTop (ef_dq4 m a (0 : Int32) (0 : Int32) (1 : Int32)) k_) ?_
  show Gl p.tables e below _ (s₁.setTop (mkF m 0 #[.val (.ref a), .val (.int (0 : Int32)), .val (.int (0 : Int32)), .val (.int (1 : Int32)), .unset, .unset, .unset] []))
  refine Gl.go (fun _ hr => zXS_iloadN X0.here hx rfl (hb hby d8_0) rfl (zXS_iloadN X0.here hx rfl (hb hby d8_1) rfl (zXS_isub X0.here hx rfl (hb hby d8_2) rfl (zXS_istore X0.here hx rfl (hb hby d8_3) rfl (l' := #[.val (.ref a), .val (.int (0 : Int32)), .val (.int (0 : Int32)), .val (.int (1 : Int32)), .val (.int (1 : Int32)), .unset, .unset]) rfl (zXS_iloadN X0.here hx rfl (hb hby d8_5) rfl (zXS_iconst X0.here hx rfl (hb hby d8_6) (zXS_icmpYes X0.here hx rfl (pc0 := 7) (pc' := 68) rfl (hb hby d8_7) rfl (XT.ii_le_t (by decide)) (by decide) (by decide) (zXS_aconstNull X0.here hx rfl (hb hby d8_68) (zXS_aloadN X0.here hx rfl (hb hby d8_69) rfl rfl (zXS_iconst X0.here hx rfl (hb hby d8_70) hr)))))))))) ?_
  refine Gl.go (fun _ hr => zXS_iloadN X0.here hx rfl (hb hby d8_71) rfl (zXS_iloadN X0.here hx rfl (hb hby d8_72) rfl hr)) ?_
  have zz2 : n0 ≤ h0.size := by omega
  refine gStaticN Gl.cl (y := (⟨"java/util/DualPivotQuicksort", "sort", "(Ljava/util/DualPivotQuicksort$Sorter;[JIII)V"⟩ : MethodName)) (argsL := [.null, (.ref a), (.int (0 : Int32)), (.int (0 : Int32)), (.int (1 : Int32))]) (rest := []) (mc := 0) (ms := 0) X0 hx hZ hown (mvT hZ (hw _ (List.mem_of_getElem? (i := 67) rfl))) (mvT hZ (hw _ (List.mem_of_getElem? (i := 68) rfl))) (mvT hZ (hw _ (List.mem_of_getElem? (i := 65) rfl))) (mvT hZ (hw _ (List.mem_of_getElem? (i := 69) rfl))) (by decide) (backOf (W := 0) (dq5 l Z a0 hw [] a h0 n0 zz2 ) hZ (hw _ (List.mem_of_getElem? (i := 69) rfl)) (hw _ (List.mem_of_getElem? (i := 65) rfl)) (by decide) (by decide)) rfl (by rw [hml]; rfl) (lenOf pd_1 rfl) rfl (by show 2 * 0 + _ ≤ _; exact Nat.le_of_eq rfl) (hb hby d8_73) rfl e0 (by decide) (by decide) ?_
  intro v2 T2 Lc2 hQ2 X2
  obtain ⟨rfl, Nq2, e2⟩ := hQ2
  have N2 := Fr.app N0 Nq2
  obtain ⟨fs, hr, hrun, hended, hW, hsame⟩ := X2.leave (v := none) (fun _ => rfl)
  refine ⟨_, _, X2.returnOut hx Bd.returns (hb hby d8_76) hr, hrun, hended, _, _, rfl, ?_, ⟨⟨_, rfl⟩, hW, hsame.mono (by decide) (by decide)⟩⟩
  show Qdq4 Z a h0 n0 _ T2.heap _
  rw [e2]
  exact ⟨rfl, N2, rfl⟩
def Qsrt (Z : State) (a : Addr) (ka : ClassId) (w0 : Int64) (h0 : Heap) (n0 : Nat) (v : Option Value) (h : Heap) (L : List Loc) : Prop := v = none ∧ Fr n0 L ∧ h = h0
theorem pn_1 : plainName "java/util/Arrays" = true := by first | (simp [plainName, overriddenIn]; done) | decide +kernel
theorem ef_srt (m : MethodId) (x0 : Addr) : entryFrame m #[(.ref x0)] 1 = mkF m 0 #[.val (.ref x0)] [] := by first | (simp [entryFrame, mkF, argsToLocals, Value.category]; done) | rfl
theorem d7_0 : decode jdk_65_method_4_code 0 = .ok (.aload_n 0, 1) := by decide +kernel
theorem d7_1 : decode jdk_65_method_4_code 1 = .ok (.iconst 0, 1) := by decide +kernel
theorem d7_2 : decode jdk_65_method_4_code 2 = .ok (.iconst 0, 1) := by decide +kernel
theorem d7_3 : decode jdk_65_method_4_code 3 = .ok (.aload_n 0, 1) := by decide +kernel
theorem d7_4 : decode jdk_65_method_4_code 4 = .ok (.arraylength, 1) := by decide +kernel
theorem d7_5 : decode jdk_65_method_4_code 5 = .ok (.invokestatic 19, 3) := by decide +kernel
theorem pd_2 : parseMethodDescriptor "([JIII)V" = some ⟨[(.array .long), .int, .int, .int], none⟩ := by decide +kernel
theorem d7_8 : decode jdk_65_method_4_code 8 = .ok (.return_, 1) := by decide +kernel
set_option maxRecDepth 65536 in
set_option maxHeartbeats 40000000 in
theorem srt (l : Launch) (Z : State) (a0 : Array Value) (hw : ∀ d ∈ tables_1, d.before a0 Z = true) (ws : List Jvm.Cond) (a : Addr) (ka : ClassId) (w0 : Int64) (h0 : Heap) (n0 : Nat) (Z0 : n0 ≤ h0.size) (q0 : Arv Z h0 a ka .long (1 : Int32) ([(.long w0)]) (.long (0 : Int64))) :
    MetFree l (⟨"java/util/Arrays", "sort", "([J)V"⟩ : MethodName) (head1 (Jvm.Cond.code (⟨"java/util/Arrays", "sort", "([J)V"⟩ : MethodName) jdk_65_method_4_code 1 none :: ws) ({ frames := 3, cells := 0, slots := 0, locals := 72 } : Room)) (fun a_ U_ => a_ = #[(.ref a)] ∧ Z.Warmed39 U_.vm ∧ U_.heap = h0) (fun _ _ _ _ _ => True) (fun _ U_ o_ V_ => ∃ v_ L_, o_ = .returned v_ ∧ Qsrt Z a ka w0 h0 n0 v_ V_.heap L_ ∧ FrameEnd U_ o_ V_ L_ ({ frames := 3, cells := 0, slots := 0, locals := 72 } : Room).cells ({ frames := 3, cells := 0, slots := 0, locals := 72 } : Room).slots) := by
  refine MetFree.of_bodySF (plainFor_of_name pn_1) hisR ?_
  intro p e s m args below meth c s₁ Bd hml0 hP hK
  obtain ⟨rfl, hZ, hh⟩ := hP
  have hx := Bd.exec
  have hby := Bd.bytes
  have hml : c.maxLocals = 1 := hml0
  have hown : s.vm.findClass "java/util/Arrays" = some m.cls := findClass_of_methodNamed Bd.named
  have hnm := (name_of_methodNamed Bd.named Bd.method).1
  have X0 : Stand p l e ({ frames := 3, cells := 0, slots := 0, locals := 72 } : Room) s m #[(.ref a)] below meth c s₁ [] 0 0 := Stand.of_body Bd
  have e0 : s₁.heap = h0 := by rw [← hh, Bd.state]; rfl
  have N0 := Fr.nil n0
  have lt3 := own_alt q0.lt
  refine Gl.go (A := s₁.setTop (entryFrame m #[(.ref a)] 1)) (P := fun o_ U_ => ∃ v_ L_, o_ = .returned v_ ∧ Qsrt Z a ka w0 h0 n0 v_ U_.heap L_ ∧ FrameEnd s o_ U_ L_ ({ frames := 3, cells := 0, slots := 0, locals := 72 } : Room).cells ({ frames := 3, cells := 0, slots := 0, locals := 72 } : Room).slots) (fun t_ k_ => castTop (ef_srt m a) k_) ?_
  show Gl p.tables e below _ (s₁.setTop (mkF m 0 #[.val (.ref a)] []))
  refine Gl.go (fun _ hr => zXS_aloadN X0.here hx rfl (hb hby d7_0) rfl rfl (zXS_iconst X0.here hx rfl (hb hby d7_1) (zXS_iconst X0.here hx rfl (hb hby d7_2) (zXS_aloadN X0.here hx rfl (hb hby d7_3) rfl rfl hr)))) ?_
  obtain ⟨c4, a4, q4, s4, m4, H4, U4⟩ := id q0
  refine gLen Gl.cl X0 hx hZ e0 a4 s4 m4 rfl rfl (hb hby d7_4) ?_
  have zz5 : n0 ≤ h0.size := by omega
  refine gStaticN Gl.cl (y := (⟨"java/util/DualPivotQuicksort", "sort", "([JIII)V"⟩ : MethodName)) (argsL := [(.ref a), (.int (0 : Int32)), (.int (0 : Int32)), (.int (1 : Int32))]) (rest := []) (mc := 0) (ms := 0) X0 hx hZ hown (mvT hZ (hw _ (List.mem_of_getElem? (i := 63) rfl))) (mvT hZ (hw _ (List.mem_of_getElem? (i := 64) rfl))) (mvT hZ (hw _ (List.mem_of_getElem? (i := 65) rfl))) (mvT hZ (hw _ (List.mem_of_getElem? (i := 66) rfl))) (by decide) (backOf (W := 0) (dq4 l Z a0 hw [] a h0 n0 zz5 ) hZ (hw _ (List.mem_of_getElem? (i := 66) rfl)) (hw _ (List.mem_of_getElem? (i := 65) rfl)) (by decide) (by decide)) rfl (by rw [hml]; rfl) (lenOf pd_2 rfl) rfl (by show 2 * 0 + _ ≤ _; exact Nat.le_of_eq rfl) (hb hby d7_5) rfl e0 (by decide) (by decide) ?_
  intro v5 T5 Lc5 hQ5 X5
  obtain ⟨rfl, Nq5, e5⟩ := hQ5
  have N5 := Fr.app N0 Nq5
  obtain ⟨fs, hr, hrun, hended, hW, hsame⟩ := X5.leave (v := none) (fun _ => rfl)
  refine ⟨_, _, X5.returnOut hx Bd.returns (hb hby d7_8) hr, hrun, hended, _, _, rfl, ?_, ⟨⟨_, rfl⟩, hW, hsame.mono (by decide) (by decide)⟩⟩
  show Qsrt Z a ka w0 h0 n0 _ T5.heap _
  rw [e5]
  exact ⟨rfl, N5, rfl⟩
def Qtak (Z : State) (a : Addr) (ka : ClassId) (w0 : Int64) (hd : Int64) (h0 : Heap) (n0 : Nat) (v : Option Value) (h : Heap) (L : List Loc) : Prop := v = none ∧ Fr n0 L ∧ Keep h0 h [a] ∧ (Arv Z h a ka .long (1 : Int32) ([(.long (w0 + hd))]) (.long (0 : Int64)))
theorem pn_2 : plainName "com/example/evenkeel/evenkeel/sim/LaneLayouts" = true := by first | (simp [plainName, overriddenIn]; done) | decide +kernel
theorem ef_tak (m : MethodId) (x0 : Addr) (x1 : Int64) : entryFrame m #[(.ref x0), (.long x1)] 8 = mkF m 0 #[.val (.ref x0), .val (.long x1), .second, .unset, .unset, .unset, .unset, .unset] [] := by first | (simp [entryFrame, mkF, argsToLocals, Value.category]; done) | rfl
theorem d11_0 : decode prog_130_method_11_code 0 = .ok (.aload_n 0, 1) := by decide +kernel
theorem d11_1 : decode prog_130_method_11_code 1 = .ok (.iconst 0, 1) := by decide +kernel
theorem d11_2 : decode prog_130_method_11_code 2 = .ok (.laload, 1) := by decide +kernel
theorem d11_3 : decode prog_130_method_11_code 3 = .ok (.lload_n 1, 1) := by decide +kernel
theorem d11_4 : decode prog_130_method_11_code 4 = .ok (.ladd, 1) := by decide +kernel
theorem d11_5 : decode prog_130_method_11_code 5 = .ok (.lstore_n 3, 1) := by decide +kernel
theorem d11_6 : decode prog_130_method_11_code 6 = .ok (.aload_n 0, 1) := by decide +kernel
theorem d11_7 : decode prog_130_method_11_code 7 = .ok (.arraylength, 1) := by decide +kernel
theorem d11_8 : decode prog_130_method_11_code 8 = .ok (.istore 5, 2) := by decide +kernel
theorem d11_10 : decode prog_130_method_11_code 10 = .ok (.iconst 0, 1) := by decide +kernel
theorem d11_11 : decode prog_130_method_11_code 11 = .ok (.istore 6, 2) := by decide +kernel
theorem d11_13 : decode prog_130_method_11_code 13 = .ok (.iconst 1, 1) := by decide +kernel
theorem d11_14 : decode prog_130_method_11_code 14 = .ok (.istore 7, 2) := by decide +kernel
theorem d11_16 : decode prog_130_method_11_code 16 = .ok (.iload 7, 2) := by decide +kernel
theorem d11_18 : decode prog_130_method_11_code 18 = .ok (.iload 5, 2) := by decide +kernel
theorem d11_20 : decode prog_130_method_11_code 20 = .ok (.if_icmp .ge 64, 3) := by decide +kernel
theorem d11_84 : decode prog_130_method_11_code 84 = .ok (.aload_n 0, 1) := by decide +kernel
theorem d11_85 : decode prog_130_method_11_code 85 = .ok (.iload 6, 2) := by decide +kernel
theorem d11_87 : decode prog_130_method_11_code 87 = .ok (.lload_n 3, 1) := by decide +kernel
theorem d11_88 : decode prog_130_method_11_code 88 = .ok (.lastore, 1) := by decide +kernel
theorem d11_89 : decode prog_130_method_11_code 89 = .ok (.return_, 1) := by decide +kernel
set_option maxRecDepth 65536 in
set_option maxHeartbeats 40000000 in
theorem tak (l : Launch) (Z : State) (a0 : Array Value) (hw : ∀ d ∈ tables_1, d.before a0 Z = true) (ws : List Jvm.Cond) (a : Addr) (ka : ClassId) (w0 : Int64) (hd : Int64) (h0 : Heap) (n0 : Nat) (Z0 : n0 ≤ h0.size) (q0 : @LE.le Nat instLENat n0 a) (q1 : Arv Z h0 a ka .long (1 : Int32) ([(.long w0)]) (.long (0 : Int64))) :
    MetFree l (⟨"com/example/evenkeel/evenkeel/sim/LaneLayouts", "take", "([JJ)V"⟩ : MethodName) (head1 (Jvm.Cond.code (⟨"com/example/evenkeel/evenkeel/sim/LaneLayouts", "take", "([JJ)V"⟩ : MethodName) prog_130_method_11_code 8 none :: ws) ({ frames := 0, cells := 0, slots := 0, locals := 0 } : Room)) (fun a_ U_ => a_ = #[(.ref a), (.long hd)] ∧ Z.Warmed39 U_.vm ∧ U_.heap = h0) (fun _ _ _ _ _ => True) (fun _ U_ o_ V_ => ∃ v_ L_, o_ = .returned v_ ∧ Qtak Z a ka w0 hd h0 n0 v_ V_.heap L_ ∧ FrameEnd U_ o_ V_ L_ ({ frames := 0, cells := 0, slots := 0, locals := 0 } : Room).cells ({ frames := 0, cells := 0, slots := 0, locals := 0 } : Room).slots) := by
  refine MetFree.of_bodySF (plainFor_of_name pn_2) hisR ?_
  intro p e s m args below meth c s₁ Bd hml0 hP hK
  obtain ⟨rfl, hZ, hh⟩ := hP
  have hx := Bd.exec
  have hby := Bd.bytes
  have hml : c.maxLocals = 8 := hml0
  have hown : s.vm.findClass "com/example/evenkeel/evenkeel/sim/LaneLayouts" = some m.cls := findClass_of_methodNamed Bd.named
  have hnm := (name_of_methodNamed Bd.named Bd.method).1
  have X0 : Stand p l e ({ frames := 0, cells := 0, slots := 0, locals := 0 } : Room) s m #[(.ref a), (.long hd)] below meth c s₁ [] 0 0 := Stand.of_body Bd
  have e0 : s₁.heap = h0 := by rw [← hh, Bd.state]; rfl
  have N0 := Fr.nil n0
  have lt6 := own_alt q1.lt
  refine Gl.go (A := s₁.setTop (entryFrame m #[(.ref a), (.long hd)] 8)) (P := fun o_ U_ => ∃ v_ L_, o_ = .returned v_ ∧ Qtak Z a ka w0 hd h0 n0 v_ U_.heap L_ ∧ FrameEnd s o_ U_ L_ ({ frames := 0, cells := 0, slots := 0, locals := 0 } : Room).cells ({ frames := 0, cells := 0, slots := 0, locals := 0 } : Room).slots) (fun t_ k_ => castTop (ef_tak m a hd) k_) ?_
  show Gl p.tables e below _ (s₁.setTop (mkF m 0 #[.val (.ref a), .val (.long hd), .second, .unset, .unset, .unset, .unset, .unset] []))
  refine Gl.go (fun _ hr => zXS_aloadN X0.here hx rfl (hb hby d11_0) rfl rfl (zXS_iconst X0.here hx rfl (hb hby d11_1) hr)) ?_
  obtain ⟨c7, a7, q7, s7, m7, H7, U7⟩ := id q1
  have i7 := inb_of s7 (j := (0 : Int32)) ⟨(by decide), (by decide)⟩
  refine g_laload Gl.cl X0 hx hZ e0 a7 i7 (v := (.long w0)) (H7.at i7 rfl) rfl rfl (hb hby d11_2) ?_
  refine Gl.go (fun _ hr => zXT_lloadN X0.here hx rfl (hb hby d11_3) rfl (zXT_ladd X0.here hx rfl (hb hby d11_4) rfl (zXT_lstoreN X0.here hx rfl (hb hby d11_5) rfl (l' := #[.val (.ref a), .val (.long hd), .second, .val (.long (w0 + hd)), .second, .unset, .unset, .unset]) rfl (zXS_aloadN X0.here hx rfl (hb hby d11_6) rfl rfl hr)))) ?_
  obtain ⟨c8, a8, q8, s8, m8, H8, U8⟩ := id q1
  refine gLen Gl.cl X0 hx hZ e0 a8 s8 m8 rfl rfl (hb hby d11_7) ?_
  refine Gl.go (fun _ hr => zXS_istore X0.here hx rfl (hb hby d11_8) rfl (l' := #[.val (.ref a), .val (.long hd), .second, .val (.long (w0 + hd)), .second, .val (.int (1 : Int32)), .unset, .unset]) rfl (zXS_iconst X0.here hx rfl (hb hby d11_10) (zXS_istore X0.here hx rfl (hb hby d11_11) rfl (l' := #[.val (.ref a), .val (.long hd), .second, .val (.long (w0 + hd)), .second, .val (.int (1 : Int32)), .val (.int (0 : Int32)), .unset]) rfl (zXS_iconst X0.here hx rfl (hb hby d11_13) (zXS_istore X0.here hx rfl (hb hby d11_14) rfl (l' := #[.val (.ref a), .val (.long hd), .second, .val (.long (w0 + hd)), .second, .val (.int (1 : Int32)), .val (.int (0 : Int32)), .val (.int (1 : Int32))]) rfl (zXS_iload X0.here hx rfl (hb hby d11_16) rfl (zXS_iload X0.here hx rfl (hb hby d11_18) rfl (zXS_icmpYes X0.here hx rfl (pc0 := 20) (pc' := 84) rfl (hb hby d11_20) rfl (XT.ii_ge_t (by decide)) (by decide) (by decide) (zXS_aloadN X0.here hx rfl (hb hby d11_84) rfl rfl (zXS_iload X0.here hx rfl (hb hby d11_85) rfl hr)))))))))) ?_
  refine Gl.go (fun _ hr => zXT_lloadN X0.here hx rfl (hb hby d11_87) rfl hr) ?_
  obtain ⟨c9, a9, q9, s9, m9, H9, U9⟩ := id q1
  refine gstJ Gl.cl X0 hx hZ e0 a9 (j := (0 : Int32)) (inb_of s9 ⟨(by decide), (by decide)⟩) rfl rfl (hb hby d11_88) ?_
  intro T9 h9 X9 e9 W9
  have z10 : h0.size ≤ h9.size := (Keep.of_wr W9).1
  have V9 : Arv Z h9 a ka .long (1 : Int32) [(.long (w0 + hd))] (.long (0 : Int64)) := Arv.set a9 q9 s9 m9 H9 U9 rfl W9 0 rfl (Nat.le_of_ble_eq_true rfl)
  have N9 := Fr.snoc X9 N0 (own_ale (by omega))
  obtain ⟨fs, hr, hrun, hended, hW, hsame⟩ := X9.leave (v := none) (fun _ => rfl)
  refine ⟨_, _, X9.returnOut hx Bd.returns (hb hby d11_89) hr, hrun, hended, _, _, rfl, ?_, ⟨⟨_, rfl⟩, hW, hsame.mono (by decide) (by decide)⟩⟩
  show Qtak Z a ka w0 hd h0 n0 _ T9.heap _
  rw [e9]
  exact ⟨rfl, N9, ((Keep.refl h0 [a]).wr W9 (Or.inl (by simp))), V9⟩
def Qini (Z : State) (x : Addr) (h0 : Heap) (n0 : Nat) (v : Option Value) (h : Heap) (L : List Loc) : Prop := ∃ (hob : Addr), ∃ (hok : ClassId), ∃ (mb : Addr), ∃ (mk : ClassId), ∃ (mv : List Value), v = none ∧ Fr n0 L ∧ Keep h0 h [x] ∧ (Exa Z h x "com/example/evenkeel/evenkeel/sim/LaneLayouts") ∧ (Fld Z h x "com/example/evenkeel/evenkeel/sim/LaneLayouts" "holds" "[J" (.ref hob)) ∧ (Fld Z h x "com/example/evenkeel/evenkeel/sim/LaneLayouts" "base" "I" (.int (0 : Int32))) ∧ (Fld Z h x "com/example/evenkeel/evenkeel/sim/LaneLayouts" "first" "I" (.int (0 : Int32))) ∧ (Fld Z h x "com/example/evenkeel/evenkeel/sim/LaneLayouts" "end" "I" (.int (0 : Int32))) ∧ (Fld Z h x "com/example/evenkeel/evenkeel/sim/LaneLayouts" "memories" "[[Lcom/example/evenkeel/evenkeel/sim/LaneLayouts$Memory;" (.ref mb)) ∧ (Arv Z h hob hok .long (64 : Int32) ([(.long (0 : Int64)), (.long (0 : Int64)), (.long (0 : Int64))]) (.long (0 : Int64))) ∧ (Arv Z h mb mk (.array (.object "com/example/evenkeel/evenkeel/sim/LaneLayouts$Memory")) (1 : Int32) mv .null) ∧ (@LE.le Nat instLENat n0 hob) ∧ (¬ @Eq Nat hob x) ∧ (¬ @Eq Nat mb x) ∧ (¬ @Eq Nat hob mb) ∧ (@LE.le Nat instLENat h0.size hob)
theorem ef_ini (m : MethodId) (x0 : Addr) : entryFrame m #[(.ref x0)] 1 = mkF m 0 #[.val (.ref x0)] [] := by first | (simp [entryFrame, mkF, argsToLocals, Value.category]; done) | rfl
theorem d1_0 : decode prog_130_method_1_code 0 = .ok (.aload_n 0, 1) := by decide +kernel
theorem d1_1 : decode prog_130_method_1_code 1 = .ok (.invokespecial 1, 3) := by decide +kernel
theorem d1_4 : decode prog_130_method_1_code 4 = .ok (.aload_n 0, 1) := by decide +kernel
theorem d1_5 : decode prog_130_method_1_code 5 = .ok (.bipush 64, 2) := by decide +kernel
theorem d1_7 : decode prog_130_method_1_code 7 = .ok (.newarray .long, 2) := by decide +kernel
theorem d1_9 : decode prog_130_method_1_code 9 = .ok (.putfield 7, 3) := by decide +kernel
theorem d1_12 : decode prog_130_method_1_code 12 = .ok (.aload_n 0, 1) := by decide +kernel
theorem d1_13 : decode prog_130_method_1_code 13 = .ok (.iconst 1, 1) := by decide +kernel
theorem d1_14 : decode prog_130_method_1_code 14 = .ok (.bipush 16, 2) := by decide +kernel
theorem d1_16 : decode prog_130_method_1_code 16 = .ok (.multianewarray 13 2, 4) := by decide +kernel
theorem d1_20 : decode prog_130_method_1_code 20 = .ok (.putfield 15, 3) := by decide +kernel
theorem d1_23 : decode prog_130_method_1_code 23 = .ok (.aload_n 0, 1) := by decide +kernel
theorem d1_24 : decode prog_130_method_1_code 24 = .ok (.getstatic 18, 3) := by decide +kernel
theorem d1_27 : decode prog_130_method_1_code 27 = .ok (.iconst 1, 1) := by decide +kernel
theorem d1_28 : decode prog_130_method_1_code 28 = .ok (.iadd, 1) := by decide +kernel
theorem d1_29 : decode prog_130_method_1_code 29 = .ok (.bipush 8, 2) := by decide +kernel
theorem d1_31 : decode prog_130_method_1_code 31 = .ok (.multianewarray 22 2, 4) := by decide +kernel
theorem d1_35 : decode prog_130_method_1_code 35 = .ok (.putfield 24, 3) := by decide +kernel
theorem d1_38 : decode prog_130_method_1_code 38 = .ok (.return_, 1) := by decide +kernel
set_option maxRecDepth 65536 in
set_option maxHeartbeats 40000000 in
theorem ini (l : Launch) (Z : State) (a0 : Array Value) (hw : ∀ d ∈ tables_1, d.before a0 Z = true) (ws : List Jvm.Cond) (x : Addr) (h0 : Heap) (n0 : Nat) (Z0 : n0 ≤ h0.size) (q0 : Old Z n0 h0) (q1 : Sta Z Z.heap "com/example/evenkeel/evenkeel/sim/LaneLayouts" "TALLEST" "I" (.int (25 : Int32))) (q2 : @LE.le Nat instLENat n0 x) (q3 : Exa Z h0 x "com/example/evenkeel/evenkeel/sim/LaneLayouts") (q4 : Fld Z h0 x "com/example/evenkeel/evenkeel/sim/LaneLayouts" "holds" "[J" .null) (q5 : Fld Z h0 x "com/example/evenkeel/evenkeel/sim/LaneLayouts" "base" "I" (.int (0 : Int32))) (q6 : Fld Z h0 x "com/example/evenkeel/evenkeel/sim/LaneLayouts" "first" "I" (.int (0 : Int32))) (q7 : Fld Z h0 x "com/example/evenkeel/evenkeel/sim/LaneLayouts" "end" "I" (.int (0 : Int32))) (q8 : Fld Z h0 x "com/example/evenkeel/evenkeel/sim/LaneLayouts" "memories" "[[Lcom/example/evenkeel/evenkeel/sim/LaneLayouts$Memory;" .null) (q9 : Fld Z h0 x "com/example/evenkeel/evenkeel/sim/LaneLayouts" "apart" "[[J" .null) :
    MetFree l (⟨"com/example/evenkeel/evenkeel/sim/LaneLayouts", "<init>", "()V"⟩ : MethodName) (head1 (Jvm.Cond.code (⟨"com/example/evenkeel/evenkeel/sim/LaneLayouts", "<init>", "()V"⟩ : MethodName) prog_130_method_1_code 1 none :: ws) ({ frames := 1, cells := 30, slots := 323, locals := 12 } : Room)) (fun a_ U_ => a_ = #[(.ref x)] ∧ Z.Warmed39 U_.vm ∧ U_.heap = h0) (fun _ _ _ _ _ => True) (fun _ U_ o_ V_ => ∃ v_ L_, o_ = .returned v_ ∧ Qini Z x h0 n0 v_ V_.heap L_ ∧ FrameEnd U_ o_ V_ L_ ({ frames := 1, cells := 30, slots := 323, locals := 12 } : Room).cells ({ frames := 1, cells := 30, slots := 323, locals := 12 } : Room).slots) := by
  refine MetFree.of_bodySF (plainFor_of_name pn_2) hisR ?_
  intro p e s m args below meth c s₁ Bd hml0 hP hK
  obtain ⟨rfl, hZ, hh⟩ := hP
  have hx := Bd.exec
  have hby := Bd.bytes
  have hml : c.maxLocals = 1 := hml0
  have hown : s.vm.findClass "com/example/evenkeel/evenkeel/sim/LaneLayouts" = some m.cls := findClass_of_methodNamed Bd.named
  have hnm := (name_of_methodNamed Bd.named Bd.method).1
  have X0 : Stand p l e ({ frames := 1, cells := 30, slots := 323, locals := 12 } : Room) s m #[(.ref x)] below meth c s₁ [] 0 0 := Stand.of_body Bd
  have e0 : s₁.heap = h0 := by rw [← hh, Bd.state]; rfl
  have N0 := Fr.nil n0
  have zo := q0.1
  have lt11 := own_alt q3.lt
  have lt12 := own_alt q4.lt
  have lt13 := own_alt q5.lt
  have lt14 := own_alt q6.lt
  have lt15 := own_alt q7.lt
  have lt16 := own_alt q8.lt
  have lt17 := own_alt q9.lt
  refine Gl.go (A := s₁.setTop (entryFrame m #[(.ref x)] 1)) (P := fun o_ U_ => ∃ v_ L_, o_ = .returned v_ ∧ Qini Z x h0 n0 v_ U_.heap L_ ∧ FrameEnd s o_ U_ L_ ({ frames := 1, cells := 30, slots := 323, locals := 12 } : Room).cells ({ frames := 1, cells := 30, slots := 323, locals := 12 } : Room).slots) (fun t_ k_ => castTop (ef_ini m x) k_) ?_
  show Gl p.tables e below _ (s₁.setTop (mkF m 0 #[.val (.ref x)] []))
  refine Gl.go (fun _ hr => zXS_aloadN X0.here hx rfl (hb hby d1_0) rfl rfl hr) ?_
  refine gInit Gl.cl (W := 0) X0 hx hZ hown (hw _ (List.mem_of_getElem? (i := 7) rfl)) (hw _ (List.mem_of_getElem? (i := 8) rfl)) (hw _ (List.mem_of_getElem? (i := 9) rfl)) e0 rfl (by rw [hml]; rfl) rfl (hb hby d1_1) (by decide) (by show 2 * 0 + _ ≤ _; exact Nat.le_of_eq rfl) (by decide) ?_
  intro T18 X18 e18
  refine Gl.go (fun _ hr => zXS_aloadN X18.here hx rfl (hb hby d1_4) rfl rfl (zXS_bipush X18.here hx rfl (hb hby d1_5) hr)) ?_
  refine gNewPE Gl.cl X18 hx hZ (hw _ (List.mem_of_getElem? (i := 10) rfl)) e18 rfl (hb hby d1_7) rfl (by decide) (cap := 64) (by decide) (by decide) (by decide) (by decide) (ad := "[J") (by decide) ?_
  intro T19 h19 b19 k19 g19 X19 e19 E19 A19 B19
  have z20 : h0.size ≤ h19.size := E19.1
  have lt19 := own_alt A19.lt
  have V19 : Arv Z h19 b19 k19 .long (64 : Int32) [(.long (0 : Int64)), (.long (0 : Int64)), (.long (0 : Int64))] (.long (0 : Int64)) := (Arv.new A19 (by decide)).pad (pad_rep [] (.long (0 : Int64)) 3)
  have Fc21 := (q4.ext E19)
  have Ec22 := (q3.ext E19)
  refine gPutF (host := "") Gl.cl X19 hx hZ hown (Or.inl (hw _ (List.mem_of_getElem? (i := 11) rfl))) Via.refl e19 Fc21 Ec22 (Or.inl (hw _ (List.mem_of_getElem? (i := 12) rfl))) (hw _ (List.mem_of_getElem? (i := 2) rfl)) (ty := (.array .long)) (by decide) rfl rfl rfl rfl (hb hby d1_9) ?_
  intro T23 h23 X23 e23 W23
  have z24 : h19.size ≤ h23.size := (Keep.of_wr W23).1
  have Fw23 := Fc21.same W23
  have N23 := Fr.snoc X23 N0 (own_ale (by omega))
  refine Gl.go (fun _ hr => zXS_aloadN X23.here hx rfl (hb hby d1_12) rfl rfl (zXS_iconst X23.here hx rfl (hb hby d1_13) (zXS_bipush X23.here hx rfl (hb hby d1_14) hr))) ?_
  obtain ⟨T25, h25, k25, kc25, X25, e25, E25, V25, -, B25, -, st25⟩ := gridM X23 hx hZ (own := "com/example/evenkeel/evenkeel/sim/LaneLayouts") (C := "[Lcom/example/evenkeel/evenkeel/sim/LaneLayouts$Memory;") (ad := "[[Lcom/example/evenkeel/evenkeel/sim/LaneLayouts$Memory;") (ty := (.object "com/example/evenkeel/evenkeel/sim/LaneLayouts$Memory")) hown (by decide) (by decide) (hw _ (List.mem_of_getElem? (i := 13) rfl)) (hw _ (List.mem_of_getElem? (i := 14) rfl)) (own_over (hw _ (List.mem_of_getElem? (i := 15) rfl))) e23 (g := (mkF m 16 #[.val (.ref x)] [(.int (16 : Int32)), (.int (1 : Int32)), (.ref x)])) rfl (hb hby d1_16) rfl (by decide) (by decide) (N := 1) rfl (xs := (List.range 1).map fun j => h23.size + 1 + j) rfl (cap := 16) (by decide) (by decide) (by decide) rfl rfl (by decide) (by decide)
  obtain ⟨b25, g25⟩ : ∃ z, z = h23.size := ⟨_, rfl⟩
  rw [← g25] at V25 B25 st25
  have z26 : h23.size ≤ h25.size := E25.1
  have lt25 := own_alt B25.lt
  obtain ⟨xs25, hxs25⟩ : ∃ q, q = List.map Value.ref ((List.range 1).map fun j => b25 + 1 + j) := ⟨_, rfl⟩
  rw [← hxs25] at V25
  refine Gl.go st25 ?_
  show Gl p.tables e below _ (T25.setTop (mkF m 20 #[.val (.ref x)] [(.ref b25), (.ref x)]))
  have Fc27 := (((q8.ext E19).other W23 (Or.inr (slot_ne (Or.inl (hw _ (List.mem_of_getElem? (i := 17) rfl))) (Or.inl (hw _ (List.mem_of_getElem? (i := 12) rfl))) (by decide) (t := (.array (.array (.object "com/example/evenkeel/evenkeel/sim/LaneLayouts$Memory")))) (t' := (.array .long)) (by decide) (by decide)))).ext E25)
  have Ec28 := ((Ec22.wr W23).ext E25)
  refine gPutF (host := "") Gl.cl X25 hx hZ hown (Or.inl (hw _ (List.mem_of_getElem? (i := 16) rfl))) Via.refl e25 Fc27 Ec28 (Or.inl (hw _ (List.mem_of_getElem? (i := 17) rfl))) (hw _ (List.mem_of_getElem? (i := 2) rfl)) (ty := (.array (.array (.object "com/example/evenkeel/evenkeel/sim/LaneLayouts$Memory")))) (by decide) rfl rfl rfl rfl (hb hby d1_20) ?_
  intro T29 h29 X29 e29 W29
  have z30 : h25.size ≤ h29.size := (Keep.of_wr W29).1
  have Fw29 := Fc27.same W29
  have N29 := Fr.snoc X29 N23 (own_ale (by omega))
  refine Gl.go (fun _ hr => zXS_aloadN X29.here hx rfl (hb hby d1_23) rfl rfl hr) ?_
  have Oc32 := ((((q0.ext E19).wr W23 (own_ale (by omega))).ext E25).wr W29 (own_ale (by omega)))
  refine gGetS (host := "") Gl.cl X29 hx hZ hown (Or.inl (hw _ (List.mem_of_getElem? (i := 18) rfl))) Via.refl e29 (q1.ext Oc32.2) rfl (hb hby d1_24) ?_
  intro T31 X31 e31
  refine Gl.go (fun _ hr => zXS_iconst X31.here hx rfl (hb hby d1_27) (zXS_iadd X31.here hx rfl (hb hby d1_28) rfl (zXS_bipush X31.here hx rfl (hb hby d1_29) hr))) ?_
  obtain ⟨T33, h33, k33, kc33, X33, e33, E33, V33, -, B33, -, st33⟩ := gridM X31 hx hZ (own := "com/example/evenkeel/evenkeel/sim/LaneLayouts") (C := "[J") (ad := "[[J") (ty := .long) hown (by decide) (by decide) (hw _ (List.mem_of_getElem? (i := 20) rfl)) (hw _ (List.mem_of_getElem? (i := 21) rfl)) (hw _ (List.mem_of_getElem? (i := 10) rfl)) e31 (g := (mkF m 31 #[.val (.ref x)] [(.int (8 : Int32)), (.int (26 : Int32)), (.ref x)])) rfl (hb hby d1_31) rfl (by decide) (by decide) (N := 26) rfl (xs := (List.range 26).map fun j => h29.size + 1 + j) rfl (cap := 8) (by decide) (by decide) (by decide) rfl rfl (by decide) (by decide)
  obtain ⟨b33, g33⟩ : ∃ z, z = h29.size := ⟨_, rfl⟩
  rw [← g33] at V33 B33 st33
  have z34 : h29.size ≤ h33.size := E33.1
  have lt33 := own_alt B33.lt
  obtain ⟨xs33, hxs33⟩ : ∃ q, q = List.map Value.ref ((List.range 26).map fun j => b33 + 1 + j) := ⟨_, rfl⟩
  rw [← hxs33] at V33
  refine Gl.go st33 ?_
  show Gl p.tables e below _ (T33.setTop (mkF m 35 #[.val (.ref x)] [(.ref b33), (.ref x)]))
  have Fc35 := (((((q9.ext E19).other W23 (Or.inr (slot_ne (Or.inr (hw _ (List.mem_of_getElem? (i := 23) rfl))) (Or.inl (hw _ (List.mem_of_getElem? (i := 12) rfl))) (by decide) (t := (.array (.array .long))) (t' := (.array .long)) (by decide) (by decide)))).ext E25).other W29 (Or.inr (slot_ne (Or.inr (hw _ (List.mem_of_getElem? (i := 23) rfl))) (Or.inl (hw _ (List.mem_of_getElem? (i := 17) rfl))) (by decide) (t := (.array (.array .long))) (t' := (.array (.array (.object "com/example/evenkeel/evenkeel/sim/LaneLayouts$Memory")))) (by decide) (by decide)))).ext E33)
  have Ec36 := ((Ec28.wr W29).ext E33)
  refine gPutF (host := "") Gl.cl X33 hx hZ hown (Or.inl (hw _ (List.mem_of_getElem? (i := 22) rfl))) Via.refl e33 Fc35 Ec36 (Or.inr ⟨(hw _ (List.mem_of_getElem? (i := 23) rfl)), rfl, hnm⟩) (hw _ (List.mem_of_getElem? (i := 2) rfl)) (ty := (.array (.array .long))) (by decide) rfl rfl rfl rfl (hb hby d1_35) ?_
  intro T37 h37 X37 e37 W37
  have z38 : h33.size ≤ h37.size := (Keep.of_wr W37).1
  have Fw37 := Fc35.same W37
  have N37 := Fr.snoc X37 N29 (own_ale (by omega))
  have Ec39 := (Ec36.wr W37)
  have Fc40 := ((((Fw23.ext E25).other W29 (Or.inr (slot_ne (Or.inl (hw _ (List.mem_of_getElem? (i := 12) rfl))) (Or.inl (hw _ (List.mem_of_getElem? (i := 17) rfl))) (by decide) (t := (.array .long)) (t' := (.array (.array (.object "com/example/evenkeel/evenkeel/sim/LaneLayouts$Memory")))) (by decide) (by decide)))).ext E33).other W37 (Or.inr (slot_ne (Or.inl (hw _ (List.mem_of_getElem? (i := 12) rfl))) (Or.inr (hw _ (List.mem_of_getElem? (i := 23) rfl))) (by decide) (t := (.array .long)) (t' := (.array (.array .long))) (by decide) (by decide))))
  have Fc41 := ((((((q5.ext E19).other W23 (Or.inr (slot_ne (Or.inl (hw _ (List.mem_of_getElem? (i := 32) rfl))) (Or.inl (hw _ (List.mem_of_getElem? (i := 12) rfl))) (by decide) (t := .int) (t' := (.array .long)) (by decide) (by decide)))).ext E25).other W29 (Or.inr (slot_ne (Or.inl (hw _ (List.mem_of_getElem? (i := 32) rfl))) (Or.inl (hw _ (List.mem_of_getElem? (i := 17) rfl))) (by decide) (t := .int) (t' := (.array (.array (.object "com/example/evenkeel/evenkeel/sim/LaneLayouts$Memory")))) (by decide) (by decide)))).ext E33).other W37 (Or.inr (slot_ne (Or.inl (hw _ (List.mem_of_getElem? (i := 32) rfl))) (Or.inr (hw _ (List.mem_of_getElem? (i := 23) rfl))) (by decide) (t := .int) (t' := (.array (.array .long))) (by decide) (by decide))))
  have Fc42 := ((((((q6.ext E19).other W23 (Or.inr (slot_ne (Or.inl (hw _ (List.mem_of_getElem? (i := 39) rfl))) (Or.inl (hw _ (List.mem_of_getElem? (i := 12) rfl))) (by decide) (t := .int) (t' := (.array .long)) (by decide) (by decide)))).ext E25).other W29 (Or.inr (slot_ne (Or.inl (hw _ (List.mem_of_getElem? (i := 39) rfl))) (Or.inl (hw _ (List.mem_of_getElem? (i := 17) rfl))) (by decide) (t := .int) (t' := (.array (.array (.object "com/example/evenkeel/evenkeel/sim/LaneLayouts$Memory")))) (by decide) (by decide)))).ext E33).other W37 (Or.inr (slot_ne (Or.inl (hw _ (List.mem_of_getElem? (i := 39) rfl))) (Or.inr (hw _ (List.mem_of_getElem? (i := 23) rfl))) (by decide) (t := .int) (t' := (.array (.array .long))) (by decide) (by decide))))
  have Fc43 := ((((((q7.ext E19).other W23 (Or.inr (slot_ne (Or.inl (hw _ (List.mem_of_getElem? (i := 30) rfl))) (Or.inl (hw _ (List.mem_of_getElem? (i := 12) rfl))) (by decide) (t := .int) (t' := (.array .long)) (by decide) (by decide)))).ext E25).other W29 (Or.inr (slot_ne (Or.inl (hw _ (List.mem_of_getElem? (i := 30) rfl))) (Or.inl (hw _ (List.mem_of_getElem? (i := 17) rfl))) (by decide) (t := .int) (t' := (.array (.array (.object "com/example/evenkeel/evenkeel/sim/LaneLayouts$Memory")))) (by decide) (by decide)))).ext E33).other W37 (Or.inr (slot_ne (Or.inl (hw _ (List.mem_of_getElem? (i := 30) rfl))) (Or.inr (hw _ (List.mem_of_getElem? (i := 23) rfl))) (by decide) (t := .int) (t' := (.array (.array .long))) (by decide) (by decide))))
  have Fc44 := ((Fw29.ext E33).other W37 (Or.inr (slot_ne (Or.inl (hw _ (List.mem_of_getElem? (i := 17) rfl))) (Or.inr (hw _ (List.mem_of_getElem? (i := 23) rfl))) (by decide) (t := (.array (.array (.object "com/example/evenkeel/evenkeel/sim/LaneLayouts$Memory")))) (t' := (.array (.array .long))) (by decide) (by decide))))
  have Vc45 := (((((V19.other W23 (own_ane (by omega))).ext E25).other W29 (own_ane (by omega))).ext E33).other W37 (own_ane (by omega)))
  have Vc46 := (((V25.other W29 (own_ane (by omega))).ext E33).other W37 (own_ane (by omega)))
  obtain ⟨fs, hr, hrun, hended, hW, hsame⟩ := X37.leave (v := none) (fun _ => rfl)
  refine ⟨_, _, X37.returnOut hx Bd.returns (hb hby d1_38) hr, hrun, hended, _, _, rfl, ?_, ⟨⟨_, rfl⟩, hW, hsame.mono (by decide) (by decide)⟩⟩
  show Qini Z x h0 n0 _ T37.heap _
  rw [e37]
  exact ⟨b19, k19, b25, k25, xs25, rfl, N37, (((((((Keep.refl h0 [x]).ext E19).wr W23 (Or.inl (by simp))).ext E25).wr W29 (Or.inl (by simp))).ext E33).wr W37 (Or.inl (by simp))), Ec39, Fc40, Fc41, Fc42, Fc43, Fc44, Vc45, Vc46, (by omega), (by omega), (by omega), (by omega), (by omega)⟩
def Qap0 (Z : State) (x : Addr) (hob : Addr) (hok : ClassId) (mb : Addr) (mk : ClassId) (mv : List Value) (w0 : Int64) (w1 : Int64) (w2 : Int64) (hd : Int64) (h0 : Heap) (n0 : Nat) (v : Option Value) (h : Heap) (L : List Loc) : Prop := v = none ∧ Fr n0 L ∧ Keep h0 h [x, hob] ∧ (Exa Z h x "com/example/evenkeel/evenkeel/sim/LaneLayouts") ∧ (Fld Z h x "com/example/evenkeel/evenkeel/sim/LaneLayouts" "holds" "[J" (.ref hob)) ∧ (Fld Z h x "com/example/evenkeel/evenkeel/sim/LaneLayouts" "base" "I" (.int (0 : Int32))) ∧ (Fld Z h x "com/example/evenkeel/evenkeel/sim/LaneLayouts" "first" "I" (.int (0 : Int32))) ∧ (Fld Z h x "com/example/evenkeel/evenkeel/sim/LaneLayouts" "end" "I" (.int (1 : Int32))) ∧ (Fld Z h x "com/example/evenkeel/evenkeel/sim/LaneLayouts" "memories" "[[Lcom/example/evenkeel/evenkeel/sim/LaneLayouts$Memory;" (.ref mb)) ∧ (Arv Z h hob hok .long (64 : Int32) ([(.long hd), (.long w1), (.long w2)]) (.long (0 : Int64))) ∧ (Arv Z h mb mk (.array (.object "com/example/evenkeel/evenkeel/sim/LaneLayouts$Memory")) (1 : Int32) mv .null)
theorem ef_ap0 (m : MethodId) (x0 : Addr) (x1 : Int64) : entryFrame m #[(.ref x0), (.long x1)] 4 = mkF m 0 #[.val (.ref x0), .val (.long x1), .second, .unset] [] := by first | (simp [entryFrame, mkF, argsToLocals, Value.category]; done) | rfl
theorem d3_0 : decode prog_130_method_4_code 0 = .ok (.aload_n 0, 1) := by decide +kernel
theorem d3_1 : decode prog_130_method_4_code 1 = .ok (.getfield 34, 3) := by decide +kernel
theorem d3_4 : decode prog_130_method_4_code 4 = .ok (.aload_n 0, 1) := by decide +kernel
theorem d3_5 : decode prog_130_method_4_code 5 = .ok (.getfield 31, 3) := by decide +kernel
theorem d3_8 : decode prog_130_method_4_code 8 = .ok (.isub, 1) := by decide +kernel
theorem d3_9 : decode prog_130_method_4_code 9 = .ok (.aload_n 0, 1) := by decide +kernel
theorem d3_10 : decode prog_130_method_4_code 10 = .ok (.getfield 7, 3) := by decide +kernel
theorem d3_13 : decode prog_130_method_4_code 13 = .ok (.arraylength, 1) := by decide +kernel
theorem d3_14 : decode prog_130_method_4_code 14 = .ok (.if_icmp .ne 77, 3) := by decide +kernel
theorem d3_91 : decode prog_130_method_4_code 91 = .ok (.aload_n 0, 1) := by decide +kernel
theorem d3_92 : decode prog_130_method_4_code 92 = .ok (.getfield 7, 3) := by decide +kernel
theorem d3_95 : decode prog_130_method_4_code 95 = .ok (.aload_n 0, 1) := by decide +kernel
theorem d3_96 : decode prog_130_method_4_code 96 = .ok (.dup, 1) := by decide +kernel
theorem d3_97 : decode prog_130_method_4_code 97 = .ok (.getfield 34, 3) := by decide +kernel
theorem d3_100 : decode prog_130_method_4_code 100 = .ok (.dup_x1, 1) := by decide +kernel
theorem d3_101 : decode prog_130_method_4_code 101 = .ok (.iconst 1, 1) := by decide +kernel
theorem d3_102 : decode prog_130_method_4_code 102 = .ok (.iadd, 1) := by decide +kernel
theorem d3_103 : decode prog_130_method_4_code 103 = .ok (.putfield 34, 3) := by decide +kernel
theorem d3_106 : decode prog_130_method_4_code 106 = .ok (.aload_n 0, 1) := by decide +kernel
theorem d3_107 : decode prog_130_method_4_code 107 = .ok (.getfield 31, 3) := by decide +kernel
theorem d3_110 : decode prog_130_method_4_code 110 = .ok (.isub, 1) := by decide +kernel
theorem d3_111 : decode prog_130_method_4_code 111 = .ok (.lload_n 1, 1) := by decide +kernel
theorem d3_112 : decode prog_130_method_4_code 112 = .ok (.lastore, 1) := by decide +kernel
theorem d3_113 : decode prog_130_method_4_code 113 = .ok (.return_, 1) := by decide +kernel
set_option maxRecDepth 65536 in
set_option maxHeartbeats 40000000 in
theorem ap0 (l : Launch) (Z : State) (a0 : Array Value) (hw : ∀ d ∈ tables_1, d.before a0 Z = true) (ws : List Jvm.Cond) (x : Addr) (hob : Addr) (hok : ClassId) (mb : Addr) (mk : ClassId) (mv : List Value) (w0 : Int64) (w1 : Int64) (w2 : Int64) (hd : Int64) (h0 : Heap) (n0 : Nat) (Z0 : n0 ≤ h0.size) (q0 : Exa Z h0 x "com/example/evenkeel/evenkeel/sim/LaneLayouts") (q1 : Fld Z h0 x "com/example/evenkeel/evenkeel/sim/LaneLayouts" "holds" "[J" (.ref hob)) (q2 : Fld Z h0 x "com/example/evenkeel/evenkeel/sim/LaneLayouts" "base" "I" (.int (0 : Int32))) (q3 : Fld Z h0 x "com/example/evenkeel/evenkeel/sim/LaneLayouts" "first" "I" (.int (0 : Int32))) (q4 : Fld Z h0 x "com/example/evenkeel/evenkeel/sim/LaneLayouts" "end" "I" (.int (0 : Int32))) (q5 : Fld Z h0 x "com/example/evenkeel/evenkeel/sim/LaneLayouts" "memories" "[[Lcom/example/evenkeel/evenkeel/sim/LaneLayouts$Memory;" (.ref mb)) (q6 : Arv Z h0 hob hok .long (64 : Int32) ([(.long w0), (.long w1), (.long w2)]) (.long (0 : Int64))) (q7 : Arv Z h0 mb mk (.array (.object "com/example/evenkeel/evenkeel/sim/LaneLayouts$Memory")) (1 : Int32) mv .null) (q8 : @LE.le Nat instLENat n0 x) (q9 : @LE.le Nat instLENat n0 hob) (q10 : ¬ @Eq Nat hob x) (q11 : ¬ @Eq Nat mb x) (q12 : ¬ @Eq Nat hob mb) :
    MetFree l (⟨"com/example/evenkeel/evenkeel/sim/LaneLayouts", "append", "(J)V"⟩ : MethodName) (head1 (Jvm.Cond.code (⟨"com/example/evenkeel/evenkeel/sim/LaneLayouts", "append", "(J)V"⟩ : MethodName) prog_130_method_4_code 4 none :: ws) ({ frames := 0, cells := 0, slots := 0, locals := 0 } : Room)) (fun a_ U_ => a_ = #[(.ref x), (.long hd)] ∧ Z.Warmed39 U_.vm ∧ U_.heap = h0) (fun _ _ _ _ _ => True) (fun _ U_ o_ V_ => ∃ v_ L_, o_ = .returned v_ ∧ Qap0 Z x hob hok mb mk mv w0 w1 w2 hd h0 n0 v_ V_.heap L_ ∧ FrameEnd U_ o_ V_ L_ ({ frames := 0, cells := 0, slots := 0, locals := 0 } : Room).cells ({ frames := 0, cells := 0, slots := 0, locals := 0 } : Room).slots) := by
  refine MetFree.of_bodySF (plainFor_of_name pn_2) hisR ?_
  intro p e s m args below meth c s₁ Bd hml0 hP hK
  obtain ⟨rfl, hZ, hh⟩ := hP
  have hx := Bd.exec
  have hby := Bd.bytes
  have hml : c.maxLocals = 4 := hml0
  have hown : s.vm.findClass "com/example/evenkeel/evenkeel/sim/LaneLayouts" = some m.cls := findClass_of_methodNamed Bd.named
  have hnm := (name_of_methodNamed Bd.named Bd.method).1
  have X0 : Stand p l e ({ frames := 0, cells := 0, slots := 0, locals := 0 } : Room) s m #[(.ref x), (.long hd)] below meth c s₁ [] 0 0 := Stand.of_body Bd
  have e0 : s₁.heap = h0 := by rw [← hh, Bd.state]; rfl
  have N0 := Fr.nil n0
  have lt47 := own_alt q0.lt
  have lt48 := own_alt q1.lt
  have lt49 := own_alt q2.lt
  have lt50 := own_alt q3.lt
  have lt51 := own_alt q4.lt
  have lt52 := own_alt q5.lt
  have lt53 := own_alt q6.lt
  have lt54 := own_alt q7.lt
  refine Gl.go (A := s₁.setTop (entryFrame m #[(.ref x), (.long hd)] 4)) (P := fun o_ U_ => ∃ v_ L_, o_ = .returned v_ ∧ Qap0 Z x hob hok mb mk mv w0 w1 w2 hd h0 n0 v_ U_.heap L_ ∧ FrameEnd s o_ U_ L_ ({ frames := 0, cells := 0, slots := 0, locals := 0 } : Room).cells ({ frames := 0, cells := 0, slots := 0, locals := 0 } : Room).slots) (fun t_ k_ => castTop (ef_ap0 m x hd) k_) ?_
  show Gl p.tables e below _ (s₁.setTop (mkF m 0 #[.val (.ref x), .val (.long hd), .second, .unset] []))
  refine Gl.go (fun _ hr => zXS_aloadN X0.here hx rfl (hb hby d3_0) rfl rfl hr) ?_
  refine gGetF (host := "") Gl.cl X0 hx hZ hown (Or.inl (hw _ (List.mem_of_getElem? (i := 29) rfl))) Via.refl e0 q4 rfl rfl (hb hby d3_1) ?_
  intro T55 X55 e55
  refine Gl.go (fun _ hr => zXS_aloadN X55.here hx rfl (hb hby d3_4) rfl rfl hr) ?_
  refine gGetF (host := "") Gl.cl X55 hx hZ hown (Or.inl (hw _ (List.mem_of_getElem? (i := 31) rfl))) Via.refl e55 q2 rfl rfl (hb hby d3_5) ?_
  intro T56 X56 e56
  refine Gl.go (fun _ hr => zXS_isub X56.here hx rfl (hb hby d3_8) rfl (zXS_aloadN X56.here hx rfl (hb hby d3_9) rfl rfl hr)) ?_
  refine gGetF (host := "") Gl.cl X56 hx hZ hown (Or.inl (hw _ (List.mem_of_getElem? (i := 11) rfl))) Via.refl e56 q1 rfl rfl (hb hby d3_10) ?_
  intro T57 X57 e57
  obtain ⟨c58, a58, q58, s58, m58, H58, U58⟩ := id q6
  refine gLen Gl.cl X57 hx hZ e57 a58 s58 m58 rfl rfl (hb hby d3_13) ?_
  refine Gl.go (fun _ hr => zXS_icmpYes X57.here hx rfl (pc0 := 14) (pc' := 91) rfl (hb hby d3_14) rfl (XT.ii_ne_t (by decide)) (by decide) (by decide) (zXS_aloadN X57.here hx rfl (hb hby d3_91) rfl rfl hr)) ?_
  refine gGetF (host := "") Gl.cl X57 hx hZ hown (Or.inl (hw _ (List.mem_of_getElem? (i := 11) rfl))) Via.refl e57 q1 rfl rfl (hb hby d3_92) ?_
  intro T59 X59 e59
  refine Gl.go (fun _ hr => zXS_aloadN X59.here hx rfl (hb hby d3_95) rfl rfl (zXS_dup X59.here hx rfl (hb hby d3_96) rfl rfl hr)) ?_
  refine gGetF (host := "") Gl.cl X59 hx hZ hown (Or.inl (hw _ (List.mem_of_getElem? (i := 29) rfl))) Via.refl e59 q4 rfl rfl (hb hby d3_97) ?_
  intro T60 X60 e60
  refine Gl.go (fun _ hr => zXT_dupX1 X60.here hx rfl (hb hby d3_100) rfl rfl rfl (zXS_iconst X60.here hx rfl (hb hby d3_101) (zXS_iadd X60.here hx rfl (hb hby d3_102) rfl hr))) ?_
  refine gPutF (host := "") Gl.cl X60 hx hZ hown (Or.inl (hw _ (List.mem_of_getElem? (i := 29) rfl))) Via.refl e60 q4 q0 (Or.inl (hw _ (List.mem_of_getElem? (i := 30) rfl))) (hw _ (List.mem_of_getElem? (i := 2) rfl)) (ty := .int) (by decide) rfl rfl rfl rfl (hb hby d3_103) ?_
  intro T61 h61 X61 e61 W61
  have z62 : h0.size ≤ h61.size := (Keep.of_wr W61).1
  have Fw61 := q4.same W61
  have N61 := Fr.snoc X61 N0 (own_ale (by omega))
  refine Gl.go (fun _ hr => zXS_aloadN X61.here hx rfl (hb hby d3_106) rfl rfl hr) ?_
  have Fc63 := (q2.other W61 (Or.inr (slot_ne (Or.inl (hw _ (List.mem_of_getElem? (i := 32) rfl))) (Or.inl (hw _ (List.mem_of_getElem? (i := 30) rfl))) (by decide) (t := .int) (t' := .int) (by decide) (by decide))))
  refine gGetF (host := "") Gl.cl X61 hx hZ hown (Or.inl (hw _ (List.mem_of_getElem? (i := 31) rfl))) Via.refl e61 Fc63 rfl rfl (hb hby d3_107) ?_
  intro T64 X64 e64
  refine Gl.go (fun _ hr => zXS_isub X64.here hx rfl (hb hby d3_110) rfl (zXT_lloadN X64.here hx rfl (hb hby d3_111) rfl hr)) ?_
  have Vc65 := (q6.other W61 (own_ane (by omega)))
  obtain ⟨c66, a66, q66, s66, m66, H66, U66⟩ := id Vc65
  refine gstJ Gl.cl X64 hx hZ e64 a66 (j := (0 : Int32)) (inb_of s66 ⟨(by decide), (by decide)⟩) rfl rfl (hb hby d3_112) ?_
  intro T66 h66 X66 e66 W66
  have z67 : h61.size ≤ h66.size := (Keep.of_wr W66).1
  have V66 : Arv Z h66 hob hok .long (64 : Int32) [(.long hd), (.long w1), (.long w2)] (.long (0 : Int64)) := Arv.set a66 q66 s66 m66 H66 U66 rfl W66 0 rfl (Nat.le_of_ble_eq_true rfl)
  have N66 := Fr.snoc X66 N61 (own_ale (by omega))
  have Ec68 := ((q0.wr W61).wr W66)
  have Fc69 := ((q1.other W61 (Or.inr (slot_ne (Or.inl (hw _ (List.mem_of_getElem? (i := 12) rfl))) (Or.inl (hw _ (List.mem_of_getElem? (i := 30) rfl))) (by decide) (t := (.array .long)) (t' := .int) (by decide) (by decide)))).other W66 (Or.inl (own_ane (by omega))))
  have Fc70 := (Fc63.other W66 (Or.inl (own_ane (by omega))))
  have Fc71 := ((q3.other W61 (Or.inr (slot_ne (Or.inl (hw _ (List.mem_of_getElem? (i := 39) rfl))) (Or.inl (hw _ (List.mem_of_getElem? (i := 30) rfl))) (by decide) (t := .int) (t' := .int) (by decide) (by decide)))).other W66 (Or.inl (own_ane (by omega))))
  have Fc72 := (Fw61.other W66 (Or.inl (own_ane (by omega))))
  have Fc73 := ((q5.other W61 (Or.inr (slot_ne (Or.inl (hw _ (List.mem_of_getElem? (i := 17) rfl))) (Or.inl (hw _ (List.mem_of_getElem? (i := 30) rfl))) (by decide) (t := (.array (.array (.object "com/example/evenkeel/evenkeel/sim/LaneLayouts$Memory")))) (t' := .int) (by decide) (by decide)))).other W66 (Or.inl (own_ane (by omega))))
  have Vc74 := ((q7.other W61 (own_ane (by omega))).other W66 (own_ane (by omega)))
  obtain ⟨fs, hr, hrun, hended, hW, hsame⟩ := X66.leave (v := none) (fun _ => rfl)
  refine ⟨_, _, X66.returnOut hx Bd.returns (hb hby d3_113) hr, hrun, hended, _, _, rfl, ?_, ⟨⟨_, rfl⟩, hW, hsame.mono (by decide) (by decide)⟩⟩
  show Qap0 Z x hob hok mb mk mv w0 w1 w2 hd h0 n0 _ T66.heap _
  rw [e66]
  exact ⟨rfl, N66, (((Keep.refl h0 [x, hob]).wr W61 (Or.inl (by simp))).wr W66 (Or.inl (by simp))), Ec68, Fc69, Fc70, Fc71, Fc72, Fc73, V66, Vc74⟩
def Qdr0 (Z : State) (x : Addr) (hob : Addr) (hok : ClassId) (mb : Addr) (mk : ClassId) (mv : List Value) (w0 : Int64) (w1 : Int64) (w2 : Int64) (h0 : Heap) (n0 : Nat) (v : Option Value) (h : Heap) (L : List Loc) : Prop := v = none ∧ Fr n0 L ∧ Keep h0 h [x] ∧ (Exa Z h x "com/example/evenkeel/evenkeel/sim/LaneLayouts") ∧ (Fld Z h x "com/example/evenkeel/evenkeel/sim/LaneLayouts" "holds" "[J" (.ref hob)) ∧ (Fld Z h x "com/example/evenkeel/evenkeel/sim/LaneLayouts" "base" "I" (.int (0 : Int32))) ∧ (Fld Z h x "com/example/evenkeel/evenkeel/sim/LaneLayouts" "first" "I" (.int (1 : Int32))) ∧ (Fld Z h x "com/example/evenkeel/evenkeel/sim/LaneLayouts" "end" "I" (.int (3 : Int32))) ∧ (Fld Z h x "com/example/evenkeel/evenkeel/sim/LaneLayouts" "memories" "[[Lcom/example/evenkeel/evenkeel/sim/LaneLayouts$Memory;" (.ref mb))
theorem ef_dr0 (m : MethodId) (x0 : Addr) : entryFrame m #[(.ref x0)] 3 = mkF m 0 #[.val (.ref x0), .unset, .unset] [] := by first | (simp [entryFrame, mkF, argsToLocals, Value.category]; done) | rfl
theorem d4_0 : decode prog_130_method_5_code 0 = .ok (.aload_n 0, 1) := by decide +kernel
theorem d4_1 : decode prog_130_method_5_code 1 = .ok (.dup, 1) := by decide +kernel
theorem d4_2 : decode prog_130_method_5_code 2 = .ok (.getfield 28, 3) := by decide +kernel
theorem d4_5 : decode prog_130_method_5_code 5 = .ok (.iconst 1, 1) := by decide +kernel
theorem d4_6 : decode prog_130_method_5_code 6 = .ok (.iadd, 1) := by decide +kernel
theorem d4_7 : decode prog_130_method_5_code 7 = .ok (.putfield 28, 3) := by decide +kernel
theorem d4_10 : decode prog_130_method_5_code 10 = .ok (.iconst 0, 1) := by decide +kernel
theorem d4_11 : decode prog_130_method_5_code 11 = .ok (.istore_n 1, 1) := by decide +kernel
theorem d4_12 : decode prog_130_method_5_code 12 = .ok (.iload_n 1, 1) := by decide +kernel
theorem d4_13 : decode prog_130_method_5_code 13 = .ok (.aload_n 0, 1) := by decide +kernel
theorem d4_14 : decode prog_130_method_5_code 14 = .ok (.getfield 15, 3) := by decide +kernel
theorem d4_17 : decode prog_130_method_5_code 17 = .ok (.arraylength, 1) := by decide +kernel
theorem d4_18 : decode prog_130_method_5_code 18 = .ok (.if_icmp .ge 53, 3) := by decide +kernel
theorem d4_21 : decode prog_130_method_5_code 21 = .ok (.aload_n 0, 1) := by decide +kernel
theorem d4_22 : decode prog_130_method_5_code 22 = .ok (.getfield 28, 3) := by decide +kernel
theorem d4_25 : decode prog_130_method_5_code 25 = .ok (.bipush 32, 2) := by decide +kernel
theorem d4_27 : decode prog_130_method_5_code 27 = .ok (.iload_n 1, 1) := by decide +kernel
theorem d4_28 : decode prog_130_method_5_code 28 = .ok (.ishl, 1) := by decide +kernel
theorem d4_29 : decode prog_130_method_5_code 29 = .ok (.irem, 1) := by decide +kernel
theorem d4_30 : decode prog_130_method_5_code 30 = .ok (.ifCond .ne 41, 3) := by decide +kernel
theorem d4_71 : decode prog_130_method_5_code 71 = .ok (.return_, 1) := by decide +kernel
set_option maxRecDepth 65536 in
set_option maxHeartbeats 40000000 in
theorem dr0 (l : Launch) (Z : State) (a0 : Array Value) (hw : ∀ d ∈ tables_1, d.before a0 Z = true) (ws : List Jvm.Cond) (x : Addr) (hob : Addr) (hok : ClassId) (mb : Addr) (mk : ClassId) (mv : List Value) (w0 : Int64) (w1 : Int64) (w2 : Int64) (h0 : Heap) (n0 : Nat) (Z0 : n0 ≤ h0.size) (q0 : Exa Z h0 x "com/example/evenkeel/evenkeel/sim/LaneLayouts") (q1 : Fld Z h0 x "com/example/evenkeel/evenkeel/sim/LaneLayouts" "holds" "[J" (.ref hob)) (q2 : Fld Z h0 x "com/example/evenkeel/evenkeel/sim/LaneLayouts" "base" "I" (.int (0 : Int32))) (q3 : Fld Z h0 x "com/example/evenkeel/evenkeel/sim/LaneLayouts" "first" "I" (.int (0 : Int32))) (q4 : Fld Z h0 x "com/example/evenkeel/evenkeel/sim/LaneLayouts" "end" "I" (.int (3 : Int32))) (q5 : Fld Z h0 x "com/example/evenkeel/evenkeel/sim/LaneLayouts" "memories" "[[Lcom/example/evenkeel/evenkeel/sim/LaneLayouts$Memory;" (.ref mb)) (q6 : Arv Z h0 hob hok .long (64 : Int32) ([(.long w0), (.long w1), (.long w2)]) (.long (0 : Int64))) (q7 : Arv Z h0 mb mk (.array (.object "com/example/evenkeel/evenkeel/sim/LaneLayouts$Memory")) (1 : Int32) mv .null) (q8 : @LE.le Nat instLENat n0 x) (q9 : @LE.le Nat instLENat n0 hob) (q10 : ¬ @Eq Nat hob x) (q11 : ¬ @Eq Nat mb x) (q12 : ¬ @Eq Nat hob mb) :
    MetFree l (⟨"com/example/evenkeel/evenkeel/sim/LaneLayouts", "dropFirst", "()V"⟩ : MethodName) (head1 (Jvm.Cond.code (⟨"com/example/evenkeel/evenkeel/sim/LaneLayouts", "dropFirst", "()V"⟩ : MethodName) prog_130_method_5_code 3 none :: ws) ({ frames := 0, cells := 0, slots := 0, locals := 0 } : Room)) (fun a_ U_ => a_ = #[(.ref x)] ∧ Z.Warmed39 U_.vm ∧ U_.heap = h0) (fun _ _ _ _ _ => True) (fun _ U_ o_ V_ => ∃ v_ L_, o_ = .returned v_ ∧ Qdr0 Z x hob hok mb mk mv w0 w1 w2 h0 n0 v_ V_.heap L_ ∧ FrameEnd U_ o_ V_ L_ ({ frames := 0, cells := 0, slots := 0, locals := 0 } : Room).cells ({ frames := 0, cells := 0, slots := 0, locals := 0 } : Room).slots) := by
  refine MetFree.of_bodySF (plainFor_of_name pn_2) hisR ?_
  intro p e s m args below meth c s₁ Bd hml0 hP hK
  obtain ⟨rfl, hZ, hh⟩ := hP
  have hx := Bd.exec
  have hby := Bd.bytes
  have hml : c.maxLocals = 3 := hml0
  have hown : s.vm.findClass "com/example/evenkeel/evenkeel/sim/LaneLayouts" = some m.cls := findClass_of_methodNamed Bd.named
  have hnm := (name_of_methodNamed Bd.named Bd.method).1
  have X0 : Stand p l e ({ frames := 0, cells := 0, slots := 0, locals := 0 } : Room) s m #[(.ref x)] below meth c s₁ [] 0 0 := Stand.of_body Bd
  have e0 : s₁.heap = h0 := by rw [← hh, Bd.state]; rfl
  have N0 := Fr.nil n0
  have lt75 := own_alt q0.lt
  have lt76 := own_alt q1.lt
  have lt77 := own_alt q2.lt
  have lt78 := own_alt q3.lt
  have lt79 := own_alt q4.lt
  have lt80 := own_alt q5.lt
  have lt81 := own_alt q6.lt
  have lt82 := own_alt q7.lt
  refine Gl.go (A := s₁.setTop (entryFrame m #[(.ref x)] 3)) (P := fun o_ U_ => ∃ v_ L_, o_ = .returned v_ ∧ Qdr0 Z x hob hok mb mk mv w0 w1 w2 h0 n0 v_ U_.heap L_ ∧ FrameEnd s o_ U_ L_ ({ frames := 0, cells := 0, slots := 0, locals := 0 } : Room).cells ({ frames := 0, cells := 0, slots := 0, locals := 0 } : Room).slots) (fun t_ k_ => castTop (ef_dr0 m x) k_) ?_
  show Gl p.tables e below _ (s₁.setTop (mkF m 0 #[.val (.ref x), .unset, .unset] []))
  refine Gl.go (fun _ hr => zXS_aloadN X0.here hx rfl (hb hby d4_0) rfl rfl (zXS_dup X0.here hx rfl (hb hby d4_1) rfl rfl hr)) ?_
  refine gGetF (host := "") Gl.cl X0 hx hZ hown (Or.inl (hw _ (List.mem_of_getElem? (i := 38) rfl))) Via.refl e0 q3 rfl rfl (hb hby d4_2) ?_
  intro T83 X83 e83
  refine Gl.go (fun _ hr => zXS_iconst X83.here hx rfl (hb hby d4_5) (zXS_iadd X83.here hx rfl (hb hby d4_6) rfl hr)) ?_
  refine gPutF (host := "") Gl.cl X83 hx hZ hown (Or.inl (hw _ (List.mem_of_getElem? (i := 38) rfl))) Via.refl e83 q3 q0 (Or.inl (hw _ (List.mem_of_getElem? (i := 39) rfl))) (hw _ (List.mem_of_getElem? (i := 2) rfl)) (ty := .int) (by decide) rfl rfl rfl rfl (hb hby d4_7) ?_
  intro T84 h84 X84 e84 W84
  have z85 : h0.size ≤ h84.size := (Keep.of_wr W84).1
  have Fw84 := q3.same W84
  have N84 := Fr.snoc X84 N0 (own_ale (by omega))
  refine Gl.go (fun _ hr => zXS_iconst X84.here hx rfl (hb hby d4_10) (zXS_istoreN X84.here hx rfl (hb hby d4_11) rfl (l' := #[.val (.ref x), .val (.int (0 : Int32)), .unset]) rfl (zXS_iloadN X84.here hx rfl (hb hby d4_12) rfl (zXS_aloadN X84.here hx rfl (hb hby d4_13) rfl rfl hr)))) ?_
  have Fc86 := (q5.other W84 (Or.inr (slot_ne (Or.inl (hw _ (List.mem_of_getElem? (i := 17) rfl))) (Or.inl (hw _ (List.mem_of_getElem? (i := 39) rfl))) (by decide) (t := (.array (.array (.object "com/example/evenkeel/evenkeel/sim/LaneLayouts$Memory")))) (t' := .int) (by decide) (by decide))))
  refine gGetF (host := "") Gl.cl X84 hx hZ hown (Or.inl (hw _ (List.mem_of_getElem? (i := 16) rfl))) Via.refl e84 Fc86 rfl rfl (hb hby d4_14) ?_
  intro T87 X87 e87
  have Vc88 := (q7.other W84 (own_ane (by omega)))
  obtain ⟨c89, a89, q89, s89, m89, H89, U89⟩ := id Vc88
  refine gLen Gl.cl X87 hx hZ e87 a89 s89 m89 rfl rfl (hb hby d4_17) ?_
  refine Gl.go (fun _ hr => zXS_icmpNo X87.here hx rfl (hb hby d4_18) rfl (XT.ii_ge_f (by decide)) (zXS_aloadN X87.here hx rfl (hb hby d4_21) rfl rfl hr)) ?_
  refine gGetF (host := "") Gl.cl X87 hx hZ hown (Or.inl (hw _ (List.mem_of_getElem? (i := 38) rfl))) Via.refl e87 Fw84 rfl rfl (hb hby d4_22) ?_
  intro T90 X90 e90
  refine Gl.go (fun _ hr => zXS_bipush X90.here hx rfl (hb hby d4_25) (zXS_iloadN X90.here hx rfl (hb hby d4_27) rfl (zXT_ishl X90.here hx rfl (hb hby d4_28) rfl (zRW_iremM X90 hx rfl (hb hby d4_29) rfl (by decide) (zXS_ifYes X90.here hx rfl (pc0 := 30) (pc' := 71) rfl (hb hby d4_30) rfl (XT.i0_ne_t (by decide)) (by decide) (by decide) hr))))) ?_
  have Ec91 := (q0.wr W84)
  have Fc92 := (q1.other W84 (Or.inr (slot_ne (Or.inl (hw _ (List.mem_of_getElem? (i := 12) rfl))) (Or.inl (hw _ (List.mem_of_getElem? (i := 39) rfl))) (by decide) (t := (.array .long)) (t' := .int) (by decide) (by decide))))
  have Fc93 := (q2.other W84 (Or.inr (slot_ne (Or.inl (hw _ (List.mem_of_getElem? (i := 32) rfl))) (Or.inl (hw _ (List.mem_of_getElem? (i := 39) rfl))) (by decide) (t := .int) (t' := .int) (by decide) (by decide))))
  have Fc94 := (q4.other W84 (Or.inr (slot_ne (Or.inl (hw _ (List.mem_of_getElem? (i := 30) rfl))) (Or.inl (hw _ (List.mem_of_getElem? (i := 39) rfl))) (by decide) (t := .int) (t' := .int) (by decide) (by decide))))
  obtain ⟨fs, hr, hrun, hended, hW, hsame⟩ := X90.leave (v := none) (fun _ => rfl)
  refine ⟨_, _, X90.returnOut hx Bd.returns (hb hby d4_71) hr, hrun, hended, _, _, rfl, ?_, ⟨⟨_, rfl⟩, hW, hsame.mono (by decide) (by decide)⟩⟩
  show Qdr0 Z x hob hok mb mk mv w0 w1 w2 h0 n0 _ T90.heap _
  rw [e90]
  exact ⟨rfl, N84, ((Keep.refl h0 [x]).wr W84 (Or.inl (by simp))), Ec91, Fc92, Fc93, Fw84, Fc94, Fc86⟩
def Qap1 (Z : State) (x : Addr) (hob : Addr) (hok : ClassId) (mb : Addr) (mk : ClassId) (mv : List Value) (w0 : Int64) (w1 : Int64) (w2 : Int64) (hd : Int64) (h0 : Heap) (n0 : Nat) (v : Option Value) (h : Heap) (L : List Loc) : Prop := v = none ∧ Fr n0 L ∧ Keep h0 h [x, hob] ∧ (Exa Z h x "com/example/evenkeel/evenkeel/sim/LaneLayouts") ∧ (Fld Z h x "com/example/evenkeel/evenkeel/sim/LaneLayouts" "holds" "[J" (.ref hob)) ∧ (Fld Z h x "com/example/evenkeel/evenkeel/sim/LaneLayouts" "base" "I" (.int (0 : Int32))) ∧ (Fld Z h x "com/example/evenkeel/evenkeel/sim/LaneLayouts" "first" "I" (.int (0 : Int32))) ∧ (Fld Z h x "com/example/evenkeel/evenkeel/sim/LaneLayouts" "end" "I" (.int (2 : Int32))) ∧ (Fld Z h x "com/example/evenkeel/evenkeel/sim/LaneLayouts" "memories" "[[Lcom/example/evenkeel/evenkeel/sim/LaneLayouts$Memory;" (.ref mb)) ∧ (Arv Z h hob hok .long (64 : Int32) ([(.long w0), (.long hd), (.long w2)]) (.long (0 : Int64))) ∧ (Arv Z h mb mk (.array (.object "com/example/evenkeel/evenkeel/sim/LaneLayouts$Memory")) (1 : Int32) mv .null)
theorem ef_ap1 (m : MethodId) (x0 : Addr) (x1 : Int64) : entryFrame m #[(.ref x0), (.long x1)] 4 = mkF m 0 #[.val (.ref x0), .val (.long x1), .second, .unset] [] := by first | (simp [entryFrame, mkF, argsToLocals, Value.category]; done) | rfl
set_option maxRecDepth 65536 in
set_option maxHeartbeats 40000000 in
theorem ap1 (l : Launch) (Z : State) (a0 : Array Value) (hw : ∀ d ∈ tables_1, d.before a0 Z = true) (ws : List Jvm.Cond) (x : Addr) (hob : Addr) (hok : ClassId) (mb : Addr) (mk : ClassId) (mv : List Value) (w0 : Int64) (w1 : Int64) (w2 : Int64) (hd : Int64) (h0 : Heap) (n0 : Nat) (Z0 : n0 ≤ h0.size) (q0 : Exa Z h0 x "com/example/evenkeel/evenkeel/sim/LaneLayouts") (q1 : Fld Z h0 x "com/example/evenkeel/evenkeel/sim/LaneLayouts" "holds" "[J" (.ref hob)) (q2 : Fld Z h0 x "com/example/evenkeel/evenkeel/sim/LaneLayouts" "base" "I" (.int (0 : Int32))) (q3 : Fld Z h0 x "com/example/evenkeel/evenkeel/sim/LaneLayouts" "first" "I" (.int (0 : Int32))) (q4 : Fld Z h0 x "com/example/evenkeel/evenkeel/sim/LaneLayouts" "end" "I" (.int (1 : Int32))) (q5 : Fld Z h0 x "com/example/evenkeel/evenkeel/sim/LaneLayouts" "memories" "[[Lcom/example/evenkeel/evenkeel/sim/LaneLayouts$Memory;" (.ref mb)) (q6 : Arv Z h0 hob hok .long (64 : Int32) ([(.long w0), (.long w1), (.long w2)]) (.long (0 : Int64))) (q7 : Arv Z h0 mb mk (.array (.object "com/example/evenkeel/evenkeel/sim/LaneLayouts$Memory")) (1 : Int32) mv .null) (q8 : @LE.le Nat instLENat n0 x) (q9 : @LE.le Nat instLENat n0 hob) (q10 : ¬ @Eq Nat hob x) (q11 : ¬ @Eq Nat mb x) (q12 : ¬ @Eq Nat hob mb) :
    MetFree l (⟨"com/example/evenkeel/evenkeel/sim/LaneLayouts", "append", "(J)V"⟩ : MethodName) (head1 (Jvm.Cond.code (⟨"com/example/evenkeel/evenkeel/sim/LaneLayouts", "append", "(J)V"⟩ : MethodName) prog_130_method_4_code 4 none :: ws) ({ frames := 0, cells := 0, slots := 0, locals := 0 } : Room)) (fun a_ U_ => a_ = #[(.ref x), (.long hd)] ∧ Z.Warmed39 U_.vm ∧ U_.heap = h0) (fun _ _ _ _ _ => True) (fun _ U_ o_ V_ => ∃ v_ L_, o_ = .returned v_ ∧ Qap1 Z x hob hok mb mk mv w0 w1 w2 hd h0 n0 v_ V_.heap L_ ∧ FrameEnd U_ o_ V_ L_ ({ frames := 0, cells := 0, slots := 0, locals := 0 } : Room).cells ({ frames := 0, cells := 0, slots := 0, locals := 0 } : Room).slots) := by
  refine MetFree.of_bodySF (plainFor_of_name pn_2) hisR ?_
  intro p e s m args below meth c s₁ Bd hml0 hP hK
  obtain ⟨rfl, hZ, hh⟩ := hP
  have hx := Bd.exec
  have hby := Bd.bytes
  have hml : c.maxLocals = 4 := hml0
  have hown : s.vm.findClass "com/example/evenkeel/evenkeel/sim/LaneLayouts" = some m.cls := findClass_of_methodNamed Bd.named
  have hnm := (name_of_methodNamed Bd.named Bd.method).1
  have X0 : Stand p l e ({ frames := 0, cells := 0, slots := 0, locals := 0 } : Room) s m #[(.ref x), (.long hd)] below meth c s₁ [] 0 0 := Stand.of_body Bd
  have e0 : s₁.heap = h0 := by rw [← hh, Bd.state]; rfl
  have N0 := Fr.nil n0
  have lt95 := own_alt q0.lt
  have lt96 := own_alt q1.lt
  have lt97 := own_alt q2.lt
  have lt98 := own_alt q3.lt
  have lt99 := own_alt q4.lt
  have lt100 := own_alt q5.lt
  have lt101 := own_alt q6.lt
  have lt102 := own_alt q7.lt
  refine Gl.go (A := s₁.setTop (entryFrame m #[(.ref x), (.long hd)] 4)) (P := fun o_ U_ => ∃ v_ L_, o_ = .returned v_ ∧ Qap1 Z x hob hok mb mk mv w0 w1 w2 hd h0 n0 v_ U_.heap L_ ∧ FrameEnd s o_ U_ L_ ({ frames := 0, cells := 0, slots := 0, locals := 0 } : Room).cells ({ frames := 0, cells := 0, slots := 0, locals := 0 } : Room).slots) (fun t_ k_ => castTop (ef_ap1 m x hd) k_) ?_
  show Gl p.tables e below _ (s₁.setTop (mkF m 0 #[.val (.ref x), .val (.long hd), .second, .unset] []))
  refine Gl.go (fun _ hr => zXS_aloadN X0.here hx rfl (hb hby d3_0) rfl rfl hr) ?_
  refine gGetF (host := "") Gl.cl X0 hx hZ hown (Or.inl (hw _ (List.mem_of_getElem? (i := 29) rfl))) Via.refl e0 q4 rfl rfl (hb hby d3_1) ?_
  intro T103 X103 e103
  refine Gl.go (fun _ hr => zXS_aloadN X103.here hx rfl (hb hby d3_4) rfl rfl hr) ?_
  refine gGetF (host := "") Gl.cl X103 hx hZ hown (Or.inl (hw _ (List.mem_of_getElem? (i := 31) rfl))) Via.refl e103 q2 rfl rfl (hb hby d3_5) ?_
  intro T104 X104 e104
  refine Gl.go (fun _ hr => zXS_isub X104.here hx rfl (hb hby d3_8) rfl (zXS_aloadN X104.here hx rfl (hb hby d3_9) rfl rfl hr)) ?_
  refine gGetF (host := "") Gl.cl X104 hx hZ hown (Or.inl (hw _ (List.mem_of_getElem? (i := 11) rfl))) Via.refl e104 q1 rfl rfl (hb hby d3_10) ?_
  intro T105 X105 e105
  obtain ⟨c106, a106, q106, s106, m106, H106, U106⟩ := id q6
  refine gLen Gl.cl X105 hx hZ e105 a106 s106 m106 rfl rfl (hb hby d3_13) ?_
  refine Gl.go (fun _ hr => zXS_icmpYes X105.here hx rfl (pc0 := 14) (pc' := 91) rfl (hb hby d3_14) rfl (XT.ii_ne_t (by decide)) (by decide) (by decide) (zXS_aloadN X105.here hx rfl (hb hby d3_91) rfl rfl hr)) ?_
  refine gGetF (host := "") Gl.cl X105 hx hZ hown (Or.inl (hw _ (List.mem_of_getElem? (i := 11) rfl))) Via.refl e105 q1 rfl rfl (hb hby d3_92) ?_
  intro T107 X107 e107
  refine Gl.go (fun _ hr => zXS_aloadN X107.here hx rfl (hb hby d3_95) rfl rfl (zXS_dup X107.here hx rfl (hb hby d3_96) rfl rfl hr)) ?_
  refine gGetF (host := "") Gl.cl X107 hx hZ hown (Or.inl (hw _ (List.mem_of_getElem? (i := 29) rfl))) Via.refl e107 q4 rfl rfl (hb hby d3_97) ?_
  intro T108 X108 e108
  refine Gl.go (fun _ hr => zXT_dupX1 X108.here hx rfl (hb hby d3_100) rfl rfl rfl (zXS_iconst X108.here hx rfl (hb hby d3_101) (zXS_iadd X108.here hx rfl (hb hby d3_102) rfl hr))) ?_
  refine gPutF (host := "") Gl.cl X108 hx hZ hown (Or.inl (hw _ (List.mem_of_getElem? (i := 29) rfl))) Via.refl e108 q4 q0 (Or.inl (hw _ (List.mem_of_getElem? (i := 30) rfl))) (hw _ (List.mem_of_getElem? (i := 2) rfl)) (ty := .int) (by decide) rfl rfl rfl rfl (hb hby d3_103) ?_
  intro T109 h109 X109 e109 W109
  have z110 : h0.size ≤ h109.size := (Keep.of_wr W109).1
  have Fw109 := q4.same W109
  have N109 := Fr.snoc X109 N0 (own_ale (by omega))
  refine Gl.go (fun _ hr => zXS_aloadN X109.here hx rfl (hb hby d3_106) rfl rfl hr) ?_
  have Fc111 := (q2.other W109 (Or.inr (slot_ne (Or.inl (hw _ (List.mem_of_getElem? (i := 32) rfl))) (Or.inl (hw _ (List.mem_of_getElem? (i := 30) rfl))) (by decide) (t := .int) (t' := .int) (by decide) (by decide))))
  refine gGetF (host := "") Gl.cl X109 hx hZ hown (Or.inl (hw _ (List.mem_of_getElem? (i := 31) rfl))) Via.refl e109 Fc111 rfl rfl (hb hby d3_107) ?_
  intro T112 X112 e112
  refine Gl.go (fun _ hr => zXS_isub X112.here hx rfl (hb hby d3_110) rfl (zXT_lloadN X112.here hx rfl (hb hby d3_111) rfl hr)) ?_
  have Vc113 := (q6.other W109 (own_ane (by omega)))
  obtain ⟨c114, a114, q114, s114, m114, H114, U114⟩ := id Vc113
  refine gstJ Gl.cl X112 hx hZ e112 a114 (j := (1 : Int32)) (inb_of s114 ⟨(by decide), (by decide)⟩) rfl rfl (hb hby d3_112) ?_
  intro T114 h114 X114 e114 W114
  have z115 : h109.size ≤ h114.size := (Keep.of_wr W114).1
  have V114 : Arv Z h114 hob hok .long (64 : Int32) [(.long w0), (.long hd), (.long w2)] (.long (0 : Int64)) := Arv.set a114 q114 s114 m114 H114 U114 rfl W114 1 rfl (Nat.le_of_ble_eq_true rfl)
  have N114 := Fr.snoc X114 N109 (own_ale (by omega))
  have Ec116 := ((q0.wr W109).wr W114)
  have Fc117 := ((q1.other W109 (Or.inr (slot_ne (Or.inl (hw _ (List.mem_of_getElem? (i := 12) rfl))) (Or.inl (hw _ (List.mem_of_getElem? (i := 30) rfl))) (by decide) (t := (.array .long)) (t' := .int) (by decide) (by decide)))).other W114 (Or.inl (own_ane (by omega))))
  have Fc118 := (Fc111.other W114 (Or.inl (own_ane (by omega))))
  have Fc119 := ((q3.other W109 (Or.inr (slot_ne (Or.inl (hw _ (List.mem_of_getElem? (i := 39) rfl))) (Or.inl (hw _ (List.mem_of_getElem? (i := 30) rfl))) (by decide) (t := .int) (t' := .int) (by decide) (by decide)))).other W114 (Or.inl (own_ane (by omega))))
  have Fc120 := (Fw109.other W114 (Or.inl (own_ane (by omega))))
  have Fc121 := ((q5.other W109 (Or.inr (slot_ne (Or.inl (hw _ (List.mem_of_getElem? (i := 17) rfl))) (Or.inl (hw _ (List.mem_of_getElem? (i := 30) rfl))) (by decide) (t := (.array (.array (.object "com/example/evenkeel/evenkeel/sim/LaneLayouts$Memory")))) (t' := .int) (by decide) (by decide)))).other W114 (Or.inl (own_ane (by omega))))
  have Vc122 := ((q7.other W109 (own_ane (by omega))).other W114 (own_ane (by omega)))
  obtain ⟨fs, hr, hrun, hended, hW, hsame⟩ := X114.leave (v := none) (fun _ => rfl)
  refine ⟨_, _, X114.returnOut hx Bd.returns (hb hby d3_113) hr, hrun, hended, _, _, rfl, ?_, ⟨⟨_, rfl⟩, hW, hsame.mono (by decide) (by decide)⟩⟩
  show Qap1 Z x hob hok mb mk mv w0 w1 w2 hd h0 n0 _ T114.heap _
  rw [e114]
  exact ⟨rfl, N114, (((Keep.refl h0 [x, hob]).wr W109 (Or.inl (by simp))).wr W114 (Or.inl (by simp))), Ec116, Fc117, Fc118, Fc119, Fc120, Fc121, V114, Vc122⟩
def Qdr1 (Z : State) (x : Addr) (hob : Addr) (hok : ClassId) (mb : Addr) (mk : ClassId) (mv : List Value) (w0 : Int64) (w1 : Int64) (w2 : Int64) (h0 : Heap) (n0 : Nat) (v : Option Value) (h : Heap) (L : List Loc) : Prop := v = none ∧ Fr n0 L ∧ Keep h0 h [x] ∧ (Exa Z h x "com/example/evenkeel/evenkeel/sim/LaneLayouts") ∧ (Fld Z h x "com/example/evenkeel/evenkeel/sim/LaneLayouts" "holds" "[J" (.ref hob)) ∧ (Fld Z h x "com/example/evenkeel/evenkeel/sim/LaneLayouts" "base" "I" (.int (0 : Int32))) ∧ (Fld Z h x "com/example/evenkeel/evenkeel/sim/LaneLayouts" "first" "I" (.int (2 : Int32))) ∧ (Fld Z h x "com/example/evenkeel/evenkeel/sim/LaneLayouts" "end" "I" (.int (3 : Int32))) ∧ (Fld Z h x "com/example/evenkeel/evenkeel/sim/LaneLayouts" "memories" "[[Lcom/example/evenkeel/evenkeel/sim/LaneLayouts$Memory;" (.ref mb))
theorem ef_dr1 (m : MethodId) (x0 : Addr) : entryFrame m #[(.ref x0)] 3 = mkF m 0 #[.val (.ref x0), .unset, .unset] [] := by first | (simp [entryFrame, mkF, argsToLocals, Value.category]; done) | rfl
set_option maxRecDepth 65536 in
set_option maxHeartbeats 40000000 in
theorem dr1 (l : Launch) (Z : State) (a0 : Array Value) (hw : ∀ d ∈ tables_1, d.before a0 Z = true) (ws : List Jvm.Cond) (x : Addr) (hob : Addr) (hok : ClassId) (mb : Addr) (mk : ClassId) (mv : List Value) (w0 : Int64) (w1 : Int64) (w2 : Int64) (h0 : Heap) (n0 : Nat) (Z0 : n0 ≤ h0.size) (q0 : Exa Z h0 x "com/example/evenkeel/evenkeel/sim/LaneLayouts") (q1 : Fld Z h0 x "com/example/evenkeel/evenkeel/sim/LaneLayouts" "holds" "[J" (.ref hob)) (q2 : Fld Z h0 x "com/example/evenkeel/evenkeel/sim/LaneLayouts" "base" "I" (.int (0 : Int32))) (q3 : Fld Z h0 x "com/example/evenkeel/evenkeel/sim/LaneLayouts" "first" "I" (.int (1 : Int32))) (q4 : Fld Z h0 x "com/example/evenkeel/evenkeel/sim/LaneLayouts" "end" "I" (.int (3 : Int32))) (q5 : Fld Z h0 x "com/example/evenkeel/evenkeel/sim/LaneLayouts" "memories" "[[Lcom/example/evenkeel/evenkeel/sim/LaneLayouts$Memory;" (.ref mb)) (q6 : Arv Z h0 hob hok .long (64 : Int32) ([(.long w0), (.long w1), (.long w2)]) (.long (0 : Int64))) (q7 : Arv Z h0 mb mk (.array (.object "com/example/evenkeel/evenkeel/sim/LaneLayouts$Memory")) (1 : Int32) mv .null) (q8 : @LE.le Nat instLENat n0 x) (q9 : @LE.le Nat instLENat n0 hob) (q10 : ¬ @Eq Nat hob x) (q11 : ¬ @Eq Nat mb x) (q12 : ¬ @Eq Nat hob mb) :
    MetFree l (⟨"com/example/evenkeel/evenkeel/sim/LaneLayouts", "dropFirst", "()V"⟩ : MethodName) (head1 (Jvm.Cond.code (⟨"com/example/evenkeel/evenkeel/sim/LaneLayouts", "dropFirst", "()V"⟩ : MethodName) prog_130_method_5_code 3 none :: ws) ({ frames := 0, cells := 0, slots := 0, locals := 0 } : Room)) (fun a_ U_ => a_ = #[(.ref x)] ∧ Z.Warmed39 U_.vm ∧ U_.heap = h0) (fun _ _ _ _ _ => True) (fun _ U_ o_ V_ => ∃ v_ L_, o_ = .returned v_ ∧ Qdr1 Z x hob hok mb mk mv w0 w1 w2 h0 n0 v_ V_.heap L_ ∧ FrameEnd U_ o_ V_ L_ ({ frames := 0, cells := 0, slots := 0, locals := 0 } : Room).cells ({ frames := 0, cells := 0, slots := 0, locals := 0 } : Room).slots) := by
  refine MetFree.of_bodySF (plainFor_of_name pn_2) hisR ?_
  intro p e s m args below meth c s₁ Bd hml0 hP hK
  obtain ⟨rfl, hZ, hh⟩ := hP
  have hx := Bd.exec
  have hby := Bd.bytes
  have hml : c.maxLocals = 3 := hml0
  have hown : s.vm.findClass "com/example/evenkeel/evenkeel/sim/LaneLayouts" = some m.cls := findClass_of_methodNamed Bd.named
  have hnm := (name_of_methodNamed Bd.named Bd.method).1
  have X0 : Stand p l e ({ frames := 0, cells := 0, slots := 0, locals := 0 } : Room) s m #[(.ref x)] below meth c s₁ [] 0 0 := Stand.of_body Bd
  have e0 : s₁.heap = h0 := by rw [← hh, Bd.state]; rfl
  have N0 := Fr.nil n0
  have lt123 := own_alt q0.lt
  have lt124 := own_alt q1.lt
  have lt125 := own_alt q2.lt
  have lt126 := own_alt q3.lt
  have lt127 := own_alt q4.lt
  have lt128 := own_alt q5.lt
  have lt129 := own_alt q6.lt
  have lt130 := own_alt q7.lt
  refine Gl.go (A := s₁.setTop (entryFrame m #[(.ref x)] 3)) (P := fun o_ U_ => ∃ v_ L_, o_ = .returned v_ ∧ Qdr1 Z x hob hok mb mk mv w0 w1 w2 h0 n0 v_ U_.heap L_ ∧ FrameEnd s o_ U_ L_ ({ frames := 0, cells := 0, slots := 0, locals := 0 } : Room).cells ({ frames := 0, cells := 0, slots := 0, locals := 0 } : Room).slots) (fun t_ k_ => castTop (ef_dr1 m x) k_) ?_
  show Gl p.tables e below _ (s₁.setTop (mkF m 0 #[.val (.ref x), .unset, .unset] []))
  refine Gl.go (fun _ hr => zXS_aloadN X0.here hx rfl (hb hby d4_0) rfl rfl (zXS_dup X0.here hx rfl (hb hby d4_1) rfl rfl hr)) ?_
  refine gGetF (host := "") Gl.cl X0 hx hZ hown (Or.inl (hw _ (List.mem_of_getElem? (i := 38) rfl))) Via.refl e0 q3 rfl rfl (hb hby d4_2) ?_
  intro T131 X131 e131
  refine Gl.go (fun _ hr => zXS_iconst X131.here hx rfl (hb hby d4_5) (zXS_iadd X131.here hx rfl (hb hby d4_6) rfl hr)) ?_
  refine gPutF (host := "") Gl.cl X131 hx hZ hown (Or.inl (hw _ (List.mem_of_getElem? (i := 38) rfl))) Via.refl e131 q3 q0 (Or.inl (hw _ (List.mem_of_getElem? (i := 39) rfl))) (hw _ (List.mem_of_getElem? (i := 2) rfl)) (ty := .int) (by decide) rfl rfl rfl rfl (hb hby d4_7) ?_
  intro T132 h132 X132 e132 W132
  have z133 : h0.size ≤ h132.size := (Keep.of_wr W132).1
  have Fw132 := q3.same W132
  have N132 := Fr.snoc X132 N0 (own_ale (by omega))
  refine Gl.go (fun _ hr => zXS_iconst X132.here hx rfl (hb hby d4_10) (zXS_istoreN X132.here hx rfl (hb hby d4_11) rfl (l' := #[.val (.ref x), .val (.int (0 : Int32)), .unset]) rfl (zXS_iloadN X132.here hx rfl (hb hby d4_12) rfl (zXS_aloadN X132.here hx rfl (hb hby d4_13) rfl rfl hr)))) ?_
  have Fc134 := (q5.other W132 (Or.inr (slot_ne (Or.inl (hw _ (List.mem_of_getElem? (i := 17) rfl))) (Or.inl (hw _ (List.mem_of_getElem? (i := 39) rfl))) (by decide) (t := (.array (.array (.object "com/example/evenkeel/evenkeel/sim/LaneLayouts$Memory")))) (t' := .int) (by decide) (by decide))))
  refine gGetF (host := "") Gl.cl X132 hx hZ hown (Or.inl (hw _ (List.mem_of_getElem? (i := 16) rfl))) Via.refl e132 Fc134 rfl rfl (hb hby d4_14) ?_
  intro T135 X135 e135
  have Vc136 := (q7.other W132 (own_ane (by omega)))
  obtain ⟨c137, a137, q137, s137, m137, H137, U137⟩ := id Vc136
  refine gLen Gl.cl X135 hx hZ e135 a137 s137 m137 rfl rfl (hb hby d4_17) ?_
  refine Gl.go (fun _ hr => zXS_icmpNo X135.here hx rfl (hb hby d4_18) rfl (XT.ii_ge_f (by decide)) (zXS_aloadN X135.here hx rfl (hb hby d4_21) rfl rfl hr)) ?_
  refine gGetF (host := "") Gl.cl X135 hx hZ hown (Or.inl (hw _ (List.mem_of_getElem? (i := 38) rfl))) Via.refl e135 Fw132 rfl rfl (hb hby d4_22) ?_
  intro T138 X138 e138
  refine Gl.go (fun _ hr => zXS_bipush X138.here hx rfl (hb hby d4_25) (zXS_iloadN X138.here hx rfl (hb hby d4_27) rfl (zXT_ishl X138.here hx rfl (hb hby d4_28) rfl (zRW_iremM X138 hx rfl (hb hby d4_29) rfl (by decide) (zXS_ifYes X138.here hx rfl (pc0 := 30) (pc' := 71) rfl (hb hby d4_30) rfl (XT.i0_ne_t (by decide)) (by decide) (by decide) hr))))) ?_
  have Ec139 := (q0.wr W132)
  have Fc140 := (q1.other W132 (Or.inr (slot_ne (Or.inl (hw _ (List.mem_of_getElem? (i := 12) rfl))) (Or.inl (hw _ (List.mem_of_getElem? (i := 39) rfl))) (by decide) (t := (.array .long)) (t' := .int) (by decide) (by decide))))
  have Fc141 := (q2.other W132 (Or.inr (slot_ne (Or.inl (hw _ (List.mem_of_getElem? (i := 32) rfl))) (Or.inl (hw _ (List.mem_of_getElem? (i := 39) rfl))) (by decide) (t := .int) (t' := .int) (by decide) (by decide))))
  have Fc142 := (q4.other W132 (Or.inr (slot_ne (Or.inl (hw _ (List.mem_of_getElem? (i := 30) rfl))) (Or.inl (hw _ (List.mem_of_getElem? (i := 39) rfl))) (by decide) (t := .int) (t' := .int) (by decide) (by decide))))
  obtain ⟨fs, hr, hrun, hended, hW, hsame⟩ := X138.leave (v := none) (fun _ => rfl)
  refine ⟨_, _, X138.returnOut hx Bd.returns (hb hby d4_71) hr, hrun, hended, _, _, rfl, ?_, ⟨⟨_, rfl⟩, hW, hsame.mono (by decide) (by decide)⟩⟩
  show Qdr1 Z x hob hok mb mk mv w0 w1 w2 h0 n0 _ T138.heap _
  rw [e138]
  exact ⟨rfl, N132, ((Keep.refl h0 [x]).wr W132 (Or.inl (by simp))), Ec139, Fc140, Fc141, Fw132, Fc142, Fc134⟩
def Qap2 (Z : State) (x : Addr) (hob : Addr) (hok : ClassId) (mb : Addr) (mk : ClassId) (mv : List Value) (w0 : Int64) (w1 : Int64) (w2 : Int64) (hd : Int64) (h0 : Heap) (n0 : Nat) (v : Option Value) (h : Heap) (L : List Loc) : Prop := v = none ∧ Fr n0 L ∧ Keep h0 h [x, hob] ∧ (Exa Z h x "com/example/evenkeel/evenkeel/sim/LaneLayouts") ∧ (Fld Z h x "com/example/evenkeel/evenkeel/sim/LaneLayouts" "holds" "[J" (.ref hob)) ∧ (Fld Z h x "com/example/evenkeel/evenkeel/sim/LaneLayouts" "base" "I" (.int (0 : Int32))) ∧ (Fld Z h x "com/example/evenkeel/evenkeel/sim/LaneLayouts" "first" "I" (.int (0 : Int32))) ∧ (Fld Z h x "com/example/evenkeel/evenkeel/sim/LaneLayouts" "end" "I" (.int (3 : Int32))) ∧ (Fld Z h x "com/example/evenkeel/evenkeel/sim/LaneLayouts" "memories" "[[Lcom/example/evenkeel/evenkeel/sim/LaneLayouts$Memory;" (.ref mb)) ∧ (Arv Z h hob hok .long (64 : Int32) ([(.long w0), (.long w1), (.long hd)]) (.long (0 : Int64))) ∧ (Arv Z h mb mk (.array (.object "com/example/evenkeel/evenkeel/sim/LaneLayouts$Memory")) (1 : Int32) mv .null)
theorem ef_ap2 (m : MethodId) (x0 : Addr) (x1 : Int64) : entryFrame m #[(.ref x0), (.long x1)] 4 = mkF m 0 #[.val (.ref x0), .val (.long x1), .second, .unset] [] := by first | (simp [entryFrame, mkF, argsToLocals, Value.category]; done) | rfl
set_option maxRecDepth 65536 in
set_option maxHeartbeats 40000000 in
theorem ap2 (l : Launch) (Z : State) (a0 : Array Value) (hw : ∀ d ∈ tables_1, d.before a0 Z = true) (ws : List Jvm.Cond) (x : Addr) (hob : Addr) (hok : ClassId) (mb : Addr) (mk : ClassId) (mv : List Value) (w0 : Int64) (w1 : Int64) (w2 : Int64) (hd : Int64) (h0 : Heap) (n0 : Nat) (Z0 : n0 ≤ h0.size) (q0 : Exa Z h0 x "com/example/evenkeel/evenkeel/sim/LaneLayouts") (q1 : Fld Z h0 x "com/example/evenkeel/evenkeel/sim/LaneLayouts" "holds" "[J" (.ref hob)) (q2 : Fld Z h0 x "com/example/evenkeel/evenkeel/sim/LaneLayouts" "base" "I" (.int (0 : Int32))) (q3 : Fld Z h0 x "com/example/evenkeel/evenkeel/sim/LaneLayouts" "first" "I" (.int (0 : Int32))) (q4 : Fld Z h0 x "com/example/evenkeel/evenkeel/sim/LaneLayouts" "end" "I" (.int (2 : Int32))) (q5 : Fld Z h0 x "com/example/evenkeel/evenkeel/sim/LaneLayouts" "memories" "[[Lcom/example/evenkeel/evenkeel/sim/LaneLayouts$Memory;" (.ref mb)) (q6 : Arv Z h0 hob hok .long (64 : Int32) ([(.long w0), (.long w1), (.long w2)]) (.long (0 : Int64))) (q7 : Arv Z h0 mb mk (.array (.object "com/example/evenkeel/evenkeel/sim/LaneLayouts$Memory")) (1 : Int32) mv .null) (q8 : @LE.le Nat instLENat n0 x) (q9 : @LE.le Nat instLENat n0 hob) (q10 : ¬ @Eq Nat hob x) (q11 : ¬ @Eq Nat mb x) (q12 : ¬ @Eq Nat hob mb) :
    MetFree l (⟨"com/example/evenkeel/evenkeel/sim/LaneLayouts", "append", "(J)V"⟩ : MethodName) (head1 (Jvm.Cond.code (⟨"com/example/evenkeel/evenkeel/sim/LaneLayouts", "append", "(J)V"⟩ : MethodName) prog_130_method_4_code 4 none :: ws) ({ frames := 0, cells := 0, slots := 0, locals := 0 } : Room)) (fun a_ U_ => a_ = #[(.ref x), (.long hd)] ∧ Z.Warmed39 U_.vm ∧ U_.heap = h0) (fun _ _ _ _ _ => True) (fun _ U_ o_ V_ => ∃ v_ L_, o_ = .returned v_ ∧ Qap2 Z x hob hok mb mk mv w0 w1 w2 hd h0 n0 v_ V_.heap L_ ∧ FrameEnd U_ o_ V_ L_ ({ frames := 0, cells := 0, slots := 0, locals := 0 } : Room).cells ({ frames := 0, cells := 0, slots := 0, locals := 0 } : Room).slots) := by
  refine MetFree.of_bodySF (plainFor_of_name pn_2) hisR ?_
  intro p e s m args below meth c s₁ Bd hml0 hP hK
  obtain ⟨rfl, hZ, hh⟩ := hP
  have hx := Bd.exec
  have hby := Bd.bytes
  have hml : c.maxLocals = 4 := hml0
  have hown : s.vm.findClass "com/example/evenkeel/evenkeel/sim/LaneLayouts" = some m.cls := findClass_of_methodNamed Bd.named
  have hnm := (name_of_methodNamed Bd.named Bd.method).1
  have X0 : Stand p l e ({ frames := 0, cells := 0, slots := 0, locals := 0 } : Room) s m #[(.ref x), (.long hd)] below meth c s₁ [] 0 0 := Stand.of_body Bd
  have e0 : s₁.heap = h0 := by rw [← hh, Bd.state]; rfl
  have N0 := Fr.nil n0
  have lt143 := own_alt q0.lt
  have lt144 := own_alt q1.lt
  have lt145 := own_alt q2.lt
  have lt146 := own_alt q3.lt
  have lt147 := own_alt q4.lt
  have lt148 := own_alt q5.lt
  have lt149 := own_alt q6.lt
  have lt150 := own_alt q7.lt
  refine Gl.go (A := s₁.setTop (entryFrame m #[(.ref x), (.long hd)] 4)) (P := fun o_ U_ => ∃ v_ L_, o_ = .returned v_ ∧ Qap2 Z x hob hok mb mk mv w0 w1 w2 hd h0 n0 v_ U_.heap L_ ∧ FrameEnd s o_ U_ L_ ({ frames := 0, cells := 0, slots := 0, locals := 0 } : Room).cells ({ frames := 0, cells := 0, slots := 0, locals := 0 } : Room).slots) (fun t_ k_ => castTop (ef_ap2 m x hd) k_) ?_
  show Gl p.tables e below _ (s₁.setTop (mkF m 0 #[.val (.ref x), .val (.long hd), .second, .unset] []))
  refine Gl.go (fun _ hr => zXS_aloadN X0.here hx rfl (hb hby d3_0) rfl rfl hr) ?_
  refine gGetF (host := "") Gl.cl X0 hx hZ hown (Or.inl (hw _ (List.mem_of_getElem? (i := 29) rfl))) Via.refl e0 q4 rfl rfl (hb hby d3_1) ?_
  intro T151 X151 e151
  refine Gl.go (fun _ hr => zXS_aloadN X151.here hx rfl (hb hby d3_4) rfl rfl hr) ?_
  refine gGetF (host := "") Gl.cl X151 hx hZ hown (Or.inl (hw _ (List.mem_of_getElem? (i := 31) rfl))) Via.refl e151 q2 rfl rfl (hb hby d3_5) ?_
  intro T152 X152 e152
  refine Gl.go (fun _ hr => zXS_isub X152.here hx rfl (hb hby d3_8) rfl (zXS_aloadN X152.here hx rfl (hb hby d3_9) rfl rfl hr)) ?_
  refine gGetF (host := "") Gl.cl X152 hx hZ hown (Or.inl (hw _ (List.mem_of_getElem? (i := 11) rfl))) Via.refl e152 q1 rfl rfl (hb hby d3_10) ?_
  intro T153 X153 e153
  obtain ⟨c154, a154, q154, s154, m154, H154, U154⟩ := id q6
  refine gLen Gl.cl X153 hx hZ e153 a154 s154 m154 rfl rfl (hb hby d3_13) ?_
  refine Gl.go (fun _ hr => zXS_icmpYes X153.here hx rfl (pc0 := 14) (pc' := 91) rfl (hb hby d3_14) rfl (XT.ii_ne_t (by decide)) (by decide) (by decide) (zXS_aloadN X153.here hx rfl (hb hby d3_91) rfl rfl hr)) ?_
  refine gGetF (host := "") Gl.cl X153 hx hZ hown (Or.inl (hw _ (List.mem_of_getElem? (i := 11) rfl))) Via.refl e153 q1 rfl rfl (hb hby d3_92) ?_
  intro T155 X155 e155
  refine Gl.go (fun _ hr => zXS_aloadN X155.here hx rfl (hb hby d3_95) rfl rfl (zXS_dup X155.here hx rfl (hb hby d3_96) rfl rfl hr)) ?_
  refine gGetF (host := "") Gl.cl X155 hx hZ hown (Or.inl (hw _ (List.mem_of_getElem? (i := 29) rfl))) Via.refl e155 q4 rfl rfl (hb hby d3_97) ?_
  intro T156 X156 e156
  refine Gl.go (fun _ hr => zXT_dupX1 X156.here hx rfl (hb hby d3_100) rfl rfl rfl (zXS_iconst X156.here hx rfl (hb hby d3_101) (zXS_iadd X156.here hx rfl (hb hby d3_102) rfl hr))) ?_
  refine gPutF (host := "") Gl.cl X156 hx hZ hown (Or.inl (hw _ (List.mem_of_getElem? (i := 29) rfl))) Via.refl e156 q4 q0 (Or.inl (hw _ (List.mem_of_getElem? (i := 30) rfl))) (hw _ (List.mem_of_getElem? (i := 2) rfl)) (ty := .int) (by decide) rfl rfl rfl rfl (hb hby d3_103) ?_
  intro T157 h157 X157 e157 W157
  have z158 : h0.size ≤ h157.size := (Keep.of_wr W157).1
  have Fw157 := q4.same W157
  have N157 := Fr.snoc X157 N0 (own_ale (by omega))
  refine Gl.go (fun _ hr => zXS_aloadN X157.here hx rfl (hb hby d3_106) rfl rfl hr) ?_
  have Fc159 := (q2.other W157 (Or.inr (slot_ne (Or.inl (hw _ (List.mem_of_getElem? (i := 32) rfl))) (Or.inl (hw _ (List.mem_of_getElem? (i := 30) rfl))) (by decide) (t := .int) (t' := .int) (by decide) (by decide))))
  refine gGetF (host := "") Gl.cl X157 hx hZ hown (Or.inl (hw _ (List.mem_of_getElem? (i := 31) rfl))) Via.refl e157 Fc159 rfl rfl (hb hby d3_107) ?_
  intro T160 X160 e160
  refine Gl.go (fun _ hr => zXS_isub X160.here hx rfl (hb hby d3_110) rfl (zXT_lloadN X160.here hx rfl (hb hby d3_111) rfl hr)) ?_
  have Vc161 := (q6.other W157 (own_ane (by omega)))
  obtain ⟨c162, a162, q162, s162, m162, H162, U162⟩ := id Vc161
  refine gstJ Gl.cl X160 hx hZ e160 a162 (j := (2 : Int32)) (inb_of s162 ⟨(by decide), (by decide)⟩) rfl rfl (hb hby d3_112) ?_
  intro T162 h162 X162 e162 W162
  have z163 : h157.size ≤ h162.size := (Keep.of_wr W162).1
  have V162 : Arv Z h162 hob hok .long (64 : Int32) [(.long w0), (.long w1), (.long hd)] (.long (0 : Int64)) := Arv.set a162 q162 s162 m162 H162 U162 rfl W162 2 rfl (Nat.le_of_ble_eq_true rfl)
  have N162 := Fr.snoc X162 N157 (own_ale (by omega))
  have Ec164 := ((q0.wr W157).wr W162)
  have Fc165 := ((q1.other W157 (Or.inr (slot_ne (Or.inl (hw _ (List.mem_of_getElem? (i := 12) rfl))) (Or.inl (hw _ (List.mem_of_getElem? (i := 30) rfl))) (by decide) (t := (.array .long)) (t' := .int) (by decide) (by decide)))).other W162 (Or.inl (own_ane (by omega))))
  have Fc166 := (Fc159.other W162 (Or.inl (own_ane (by omega))))
  have Fc167 := ((q3.other W157 (Or.inr (slot_ne (Or.inl (hw _ (List.mem_of_getElem? (i := 39) rfl))) (Or.inl (hw _ (List.mem_of_getElem? (i := 30) rfl))) (by decide) (t := .int) (t' := .int) (by decide) (by decide)))).other W162 (Or.inl (own_ane (by omega))))
  have Fc168 := (Fw157.other W162 (Or.inl (own_ane (by omega))))
  have Fc169 := ((q5.other W157 (Or.inr (slot_ne (Or.inl (hw _ (List.mem_of_getElem? (i := 17) rfl))) (Or.inl (hw _ (List.mem_of_getElem? (i := 30) rfl))) (by decide) (t := (.array (.array (.object "com/example/evenkeel/evenkeel/sim/LaneLayouts$Memory")))) (t' := .int) (by decide) (by decide)))).other W162 (Or.inl (own_ane (by omega))))
  have Vc170 := ((q7.other W157 (own_ane (by omega))).other W162 (own_ane (by omega)))
  obtain ⟨fs, hr, hrun, hended, hW, hsame⟩ := X162.leave (v := none) (fun _ => rfl)
  refine ⟨_, _, X162.returnOut hx Bd.returns (hb hby d3_113) hr, hrun, hended, _, _, rfl, ?_, ⟨⟨_, rfl⟩, hW, hsame.mono (by decide) (by decide)⟩⟩
  show Qap2 Z x hob hok mb mk mv w0 w1 w2 hd h0 n0 _ T162.heap _
  rw [e162]
  exact ⟨rfl, N162, (((Keep.refl h0 [x, hob]).wr W157 (Or.inl (by simp))).wr W162 (Or.inl (by simp))), Ec164, Fc165, Fc166, Fc167, Fc168, Fc169, V162, Vc170⟩
def Qdr2 (Z : State) (x : Addr) (hob : Addr) (hok : ClassId) (mb : Addr) (mk : ClassId) (mv : List Value) (w0 : Int64) (w1 : Int64) (w2 : Int64) (h0 : Heap) (n0 : Nat) (v : Option Value) (h : Heap) (L : List Loc) : Prop := v = none ∧ Fr n0 L ∧ Keep h0 h [x] ∧ (Exa Z h x "com/example/evenkeel/evenkeel/sim/LaneLayouts") ∧ (Fld Z h x "com/example/evenkeel/evenkeel/sim/LaneLayouts" "holds" "[J" (.ref hob)) ∧ (Fld Z h x "com/example/evenkeel/evenkeel/sim/LaneLayouts" "base" "I" (.int (0 : Int32))) ∧ (Fld Z h x "com/example/evenkeel/evenkeel/sim/LaneLayouts" "first" "I" (.int (3 : Int32))) ∧ (Fld Z h x "com/example/evenkeel/evenkeel/sim/LaneLayouts" "end" "I" (.int (3 : Int32))) ∧ (Fld Z h x "com/example/evenkeel/evenkeel/sim/LaneLayouts" "memories" "[[Lcom/example/evenkeel/evenkeel/sim/LaneLayouts$Memory;" (.ref mb))
theorem ef_dr2 (m : MethodId) (x0 : Addr) : entryFrame m #[(.ref x0)] 3 = mkF m 0 #[.val (.ref x0), .unset, .unset] [] := by first | (simp [entryFrame, mkF, argsToLocals, Value.category]; done) | rfl
set_option maxRecDepth 65536 in
set_option maxHeartbeats 40000000 in
theorem dr2 (l : Launch) (Z : State) (a0 : Array Value) (hw : ∀ d ∈ tables_1, d.before a0 Z = true) (ws : List Jvm.Cond) (x : Addr) (hob : Addr) (hok : ClassId) (mb : Addr) (mk : ClassId) (mv : List Value) (w0 : Int64) (w1 : Int64) (w2 : Int64) (h0 : Heap) (n0 : Nat) (Z0 : n0 ≤ h0.size) (q0 : Exa Z h0 x "com/example/evenkeel/evenkeel/sim/LaneLayouts") (q1 : Fld Z h0 x "com/example/evenkeel/evenkeel/sim/LaneLayouts" "holds" "[J" (.ref hob)) (q2 : Fld Z h0 x "com/example/evenkeel/evenkeel/sim/LaneLayouts" "base" "I" (.int (0 : Int32))) (q3 : Fld Z h0 x "com/example/evenkeel/evenkeel/sim/LaneLayouts" "first" "I" (.int (2 : Int32))) (q4 : Fld Z h0 x "com/example/evenkeel/evenkeel/sim/LaneLayouts" "end" "I" (.int (3 : Int32))) (q5 : Fld Z h0 x "com/example/evenkeel/evenkeel/sim/LaneLayouts" "memories" "[[Lcom/example/evenkeel/evenkeel/sim/LaneLayouts$Memory;" (.ref mb)) (q6 : Arv Z h0 hob hok .long (64 : Int32) ([(.long w0), (.long w1), (.long w2)]) (.long (0 : Int64))) (q7 : Arv Z h0 mb mk (.array (.object "com/example/evenkeel/evenkeel/sim/LaneLayouts$Memory")) (1 : Int32) mv .null) (q8 : @LE.le Nat instLENat n0 x) (q9 : @LE.le Nat instLENat n0 hob) (q10 : ¬ @Eq Nat hob x) (q11 : ¬ @Eq Nat mb x) (q12 : ¬ @Eq Nat hob mb) :
    MetFree l (⟨"com/example/evenkeel/evenkeel/sim/LaneLayouts", "dropFirst", "()V"⟩ : MethodName) (head1 (Jvm.Cond.code (⟨"com/example/evenkeel/evenkeel/sim/LaneLayouts", "dropFirst", "()V"⟩ : MethodName) prog_130_method_5_code 3 none :: ws) ({ frames := 0, cells := 0, slots := 0, locals := 0 } : Room)) (fun a_ U_ => a_ = #[(.ref x)] ∧ Z.Warmed39 U_.vm ∧ U_.heap = h0) (fun _ _ _ _ _ => True) (fun _ U_ o_ V_ => ∃ v_ L_, o_ = .returned v_ ∧ Qdr2 Z x hob hok mb mk mv w0 w1 w2 h0 n0 v_ V_.heap L_ ∧ FrameEnd U_ o_ V_ L_ ({ frames := 0, cells := 0, slots := 0, locals := 0 } : Room).cells ({ frames := 0, cells := 0, slots := 0, locals := 0 } : Room).slots) := by
  refine MetFree.of_bodySF (plainFor_of_name pn_2) hisR ?_
  intro p e s m args below meth c s₁ Bd hml0 hP hK
  obtain ⟨rfl, hZ, hh⟩ := hP
  have hx := Bd.exec
  have hby := Bd.bytes
  have hml : c.maxLocals = 3 := hml0
  have hown : s.vm.findClass "com/example/evenkeel/evenkeel/sim/LaneLayouts" = some m.cls := findClass_of_methodNamed Bd.named
  have hnm := (name_of_methodNamed Bd.named Bd.method).1
  have X0 : Stand p l e ({ frames := 0, cells := 0, slots := 0, locals := 0 } : Room) s m #[(.ref x)] below meth c s₁ [] 0 0 := Stand.of_body Bd
  have e0 : s₁.heap = h0 := by rw [← hh, Bd.state]; rfl
  have N0 := Fr.nil n0
  have lt171 := own_alt q0.lt
  have lt172 := own_alt q1.lt
  have lt173 := own_alt q2.lt
  have lt174 := own_alt q3.lt
  have lt175 := own_alt q4.lt
  have lt176 := own_alt q5.lt
  have lt177 := own_alt q6.lt
  have lt178 := own_alt q7.lt
  refine Gl.go (A := s₁.setTop (entryFrame m #[(.ref x)] 3)) (P := fun o_ U_ => ∃ v_ L_, o_ = .returned v_ ∧ Qdr2 Z x hob hok mb mk mv w0 w1 w2 h0 n0 v_ U_.heap L_ ∧ FrameEnd s o_ U_ L_ ({ frames := 0, cells := 0, slots := 0, locals := 0 } : Room).cells ({ frames := 0, cells := 0, slots := 0, locals := 0 } : Room).slots) (fun t_ k_ => castTop (ef_dr2 m x) k_) ?_
  show Gl p.tables e below _ (s₁.setTop (mkF m 0 #[.val (.ref x), .unset, .unset] []))
  refine Gl.go (fun _ hr => zXS_aloadN X0.here hx rfl (hb hby d4_0) rfl rfl (zXS_dup X0.here hx rfl (hb hby d4_1) rfl rfl hr)) ?_
  refine gGetF (host := "") Gl.cl X0 hx hZ hown (Or.inl (hw _ (List.mem_of_getElem? (i := 38) rfl))) Via.refl e0 q3 rfl rfl (hb hby d4_2) ?_
  intro T179 X179 e179
  refine Gl.go (fun _ hr => zXS_iconst X179.here hx rfl (hb hby d4_5) (zXS_iadd X179.here hx rfl (hb hby d4_6) rfl hr)) ?_
  refine gPutF (host := "") Gl.cl X179 hx hZ hown (Or.inl (hw _ (List.mem_of_getElem? (i := 38) rfl))) Via.refl e179 q3 q0 (Or.inl (hw _ (List.mem_of_getElem? (i := 39) rfl))) (hw _ (List.mem_of_getElem? (i := 2) rfl)) (ty := .int) (by decide) rfl rfl rfl rfl (hb hby d4_7) ?_
  intro T180 h180 X180 e180 W180
  have z181 : h0.size ≤ h180.size := (Keep.of_wr W180).1
  have Fw180 := q3.same W180
  have N180 := Fr.snoc X180 N0 (own_ale (by omega))
  refine Gl.go (fun _ hr => zXS_iconst X180.here hx rfl (hb hby d4_10) (zXS_istoreN X180.here hx rfl (hb hby d4_11) rfl (l' := #[.val (.ref x), .val (.int (0 : Int32)), .unset]) rfl (zXS_iloadN X180.here hx rfl (hb hby d4_12) rfl (zXS_aloadN X180.here hx rfl (hb hby d4_13) rfl rfl hr)))) ?_
  have Fc182 := (q5.other W180 (Or.inr (slot_ne (Or.inl (hw _ (List.mem_of_getElem? (i := 17) rfl))) (Or.inl (hw _ (List.mem_of_getElem? (i := 39) rfl))) (by decide) (t := (.array (.array (.object "com/example/evenkeel/evenkeel/sim/LaneLayouts$Memory")))) (t' := .int) (by decide) (by decide))))
  refine gGetF (host := "") Gl.cl X180 hx hZ hown (Or.inl (hw _ (List.mem_of_getElem? (i := 16) rfl))) Via.refl e180 Fc182 rfl rfl (hb hby d4_14) ?_
  intro T183 X183 e183
  have Vc184 := (q7.other W180 (own_ane (by omega)))
  obtain ⟨c185, a185, q185, s185, m185, H185, U185⟩ := id Vc184
  refine gLen Gl.cl X183 hx hZ e183 a185 s185 m185 rfl rfl (hb hby d4_17) ?_
  refine Gl.go (fun _ hr => zXS_icmpNo X183.here hx rfl (hb hby d4_18) rfl (XT.ii_ge_f (by decide)) (zXS_aloadN X183.here hx rfl (hb hby d4_21) rfl rfl hr)) ?_
  refine gGetF (host := "") Gl.cl X183 hx hZ hown (Or.inl (hw _ (List.mem_of_getElem? (i := 38) rfl))) Via.refl e183 Fw180 rfl rfl (hb hby d4_22) ?_
  intro T186 X186 e186
  refine Gl.go (fun _ hr => zXS_bipush X186.here hx rfl (hb hby d4_25) (zXS_iloadN X186.here hx rfl (hb hby d4_27) rfl (zXT_ishl X186.here hx rfl (hb hby d4_28) rfl (zRW_iremM X186 hx rfl (hb hby d4_29) rfl (by decide) (zXS_ifYes X186.here hx rfl (pc0 := 30) (pc' := 71) rfl (hb hby d4_30) rfl (XT.i0_ne_t (by decide)) (by decide) (by decide) hr))))) ?_
  have Ec187 := (q0.wr W180)
  have Fc188 := (q1.other W180 (Or.inr (slot_ne (Or.inl (hw _ (List.mem_of_getElem? (i := 12) rfl))) (Or.inl (hw _ (List.mem_of_getElem? (i := 39) rfl))) (by decide) (t := (.array .long)) (t' := .int) (by decide) (by decide))))
  have Fc189 := (q2.other W180 (Or.inr (slot_ne (Or.inl (hw _ (List.mem_of_getElem? (i := 32) rfl))) (Or.inl (hw _ (List.mem_of_getElem? (i := 39) rfl))) (by decide) (t := .int) (t' := .int) (by decide) (by decide))))
  have Fc190 := (q4.other W180 (Or.inr (slot_ne (Or.inl (hw _ (List.mem_of_getElem? (i := 30) rfl))) (Or.inl (hw _ (List.mem_of_getElem? (i := 39) rfl))) (by decide) (t := .int) (t' := .int) (by decide) (by decide))))
  obtain ⟨fs, hr, hrun, hended, hW, hsame⟩ := X186.leave (v := none) (fun _ => rfl)
  refine ⟨_, _, X186.returnOut hx Bd.returns (hb hby d4_71) hr, hrun, hended, _, _, rfl, ?_, ⟨⟨_, rfl⟩, hW, hsame.mono (by decide) (by decide)⟩⟩
  show Qdr2 Z x hob hok mb mk mv w0 w1 w2 h0 n0 _ T186.heap _
  rw [e186]
  exact ⟨rfl, N180, ((Keep.refl h0 [x]).wr W180 (Or.inl (by simp))), Ec187, Fc188, Fc189, Fw180, Fc190, Fc182⟩
def Qsz0 (Z : State) (x : Addr) (h0 : Heap) (n0 : Nat) (v : Option Value) (h : Heap) (L : List Loc) : Prop := v = some (.int (3 : Int32)) ∧ Fr n0 L ∧ h = h0
theorem ef_sz0 (m : MethodId) (x0 : Addr) : entryFrame m #[(.ref x0)] 1 = mkF m 0 #[.val (.ref x0)] [] := by first | (simp [entryFrame, mkF, argsToLocals, Value.category]; done) | rfl
theorem d5_0 : decode prog_130_method_3_code 0 = .ok (.aload_n 0, 1) := by decide +kernel
theorem d5_1 : decode prog_130_method_3_code 1 = .ok (.getfield 34, 3) := by decide +kernel
theorem d5_4 : decode prog_130_method_3_code 4 = .ok (.aload_n 0, 1) := by decide +kernel
theorem d5_5 : decode prog_130_method_3_code 5 = .ok (.getfield 28, 3) := by decide +kernel
theorem d5_8 : decode prog_130_method_3_code 8 = .ok (.isub, 1) := by decide +kernel
theorem d5_9 : decode prog_130_method_3_code 9 = .ok (.ireturn, 1) := by decide +kernel
set_option maxRecDepth 65536 in
set_option maxHeartbeats 40000000 in
theorem sz0 (l : Launch) (Z : State) (a0 : Array Value) (hw : ∀ d ∈ tables_1, d.before a0 Z = true) (ws : List Jvm.Cond) (x : Addr) (h0 : Heap) (n0 : Nat) (Z0 : n0 ≤ h0.size) (q0 : Fld Z h0 x "com/example/evenkeel/evenkeel/sim/LaneLayouts" "end" "I" (.int (3 : Int32))) (q1 : Fld Z h0 x "com/example/evenkeel/evenkeel/sim/LaneLayouts" "first" "I" (.int (0 : Int32))) :
    MetFree l (⟨"com/example/evenkeel/evenkeel/sim/LaneLayouts", "size", "()I"⟩ : MethodName) (head1 (Jvm.Cond.code (⟨"com/example/evenkeel/evenkeel/sim/LaneLayouts", "size", "()I"⟩ : MethodName) prog_130_method_3_code 1 (some .int) :: ws) ({ frames := 0, cells := 0, slots := 0, locals := 0 } : Room)) (fun a_ U_ => a_ = #[(.ref x)] ∧ Z.Warmed39 U_.vm ∧ U_.heap = h0) (fun _ _ _ _ _ => True) (fun _ U_ o_ V_ => ∃ v_ L_, o_ = .returned v_ ∧ Qsz0 Z x h0 n0 v_ V_.heap L_ ∧ FrameEnd U_ o_ V_ L_ ({ frames := 0, cells := 0, slots := 0, locals := 0 } : Room).cells ({ frames := 0, cells := 0, slots := 0, locals := 0 } : Room).slots) := by
  refine MetFree.of_bodySF (plainFor_of_name pn_2) hisR ?_
  intro p e s m args below meth c s₁ Bd hml0 hP hK
  obtain ⟨rfl, hZ, hh⟩ := hP
  have hx := Bd.exec
  have hby := Bd.bytes
  have hml : c.maxLocals = 1 := hml0
  have hown : s.vm.findClass "com/example/evenkeel/evenkeel/sim/LaneLayouts" = some m.cls := findClass_of_methodNamed Bd.named
  have hnm := (name_of_methodNamed Bd.named Bd.method).1
  have X0 : Stand p l e ({ frames := 0, cells := 0, slots := 0, locals := 0 } : Room) s m #[(.ref x)] below meth c s₁ [] 0 0 := Stand.of_body Bd
  have e0 : s₁.heap = h0 := by rw [← hh, Bd.state]; rfl
  have N0 := Fr.nil n0
  have lt191 := own_alt q0.lt
  have lt192 := own_alt q1.lt
  refine Gl.go (A := s₁.setTop (entryFrame m #[(.ref x)] 1)) (P := fun o_ U_ => ∃ v_ L_, o_ = .returned v_ ∧ Qsz0 Z x h0 n0 v_ U_.heap L_ ∧ FrameEnd s o_ U_ L_ ({ frames := 0, cells := 0, slots := 0, locals := 0 } : Room).cells ({ frames := 0, cells := 0, slots := 0, locals := 0 } : Room).slots) (fun t_ k_ => castTop (ef_sz0 m x) k_) ?_
  show Gl p.tables e below _ (s₁.setTop (mkF m 0 #[.val (.ref x)] []))
  refine Gl.go (fun _ hr => zXS_aloadN X0.here hx rfl (hb hby d5_0) rfl rfl hr) ?_
  refine gGetF (host := "") Gl.cl X0 hx hZ hown (Or.inl (hw _ (List.mem_of_getElem? (i := 29) rfl))) Via.refl e0 q0 rfl rfl (hb hby d5_1) ?_
  intro T193 X193 e193
  refine Gl.go (fun _ hr => zXS_aloadN X193.here hx rfl (hb hby d5_4) rfl rfl hr) ?_
  refine gGetF (host := "") Gl.cl X193 hx hZ hown (Or.inl (hw _ (List.mem_of_getElem? (i := 38) rfl))) Via.refl e193 q1 rfl rfl (hb hby d5_5) ?_
  intro T194 X194 e194
  refine Gl.go (fun _ hr => zXS_isub X194.here hx rfl (hb hby d5_8) rfl hr) ?_
  obtain ⟨fs, hr, hrun, hended, hW, hsame⟩ := X194.leave (v := some (.int (3 : Int32))) (fun h => by rw [Bd.returns] at h; cases h)
  refine ⟨_, _, retOut X194 hx Bd.returns rfl (Or.inl ⟨rfl, Or.inl rfl, _, rfl⟩) (hb hby d5_9) hr, hrun, hended, _, _, rfl, ?_, ⟨⟨_, rfl⟩, hW, hsame.mono (by decide) (by decide)⟩⟩
  show Qsz0 Z x h0 n0 _ T194.heap _
  rw [e194]
  exact ⟨rfl, N0, rfl⟩
def Qsz1 (Z : State) (x : Addr) (h0 : Heap) (n0 : Nat) (v : Option Value) (h : Heap) (L : List Loc) : Prop := v = some (.int (2 : Int32)) ∧ Fr n0 L ∧ h = h0
theorem ef_sz1 (m : MethodId) (x0 : Addr) : entryFrame m #[(.ref x0)] 1 = mkF m 0 #[.val (.ref x0)] [] := by first | (simp [entryFrame, mkF, argsToLocals, Value.category]; done) | rfl
set_option maxRecDepth 65536 in
set_option maxHeartbeats 40000000 in
theorem sz1 (l : Launch) (Z : State) (a0 : Array Value) (hw : ∀ d ∈ tables_1, d.before a0 Z = true) (ws : List Jvm.Cond) (x : Addr) (h0 : Heap) (n0 : Nat) (Z0 : n0 ≤ h0.size) (q0 : Fld Z h0 x "com/example/evenkeel/evenkeel/sim/LaneLayouts" "end" "I" (.int (3 : Int32))) (q1 : Fld Z h0 x "com/example/evenkeel/evenkeel/sim/LaneLayouts" "first" "I" (.int (1 : Int32))) :
    MetFree l (⟨"com/example/evenkeel/evenkeel/sim/LaneLayouts", "size", "()I"⟩ : MethodName) (head1 (Jvm.Cond.code (⟨"com/example/evenkeel/evenkeel/sim/LaneLayouts", "size", "()I"⟩ : MethodName) prog_130_method_3_code 1 (some .int) :: ws) ({ frames := 0, cells := 0, slots := 0, locals := 0 } : Room)) (fun a_ U_ => a_ = #[(.ref x)] ∧ Z.Warmed39 U_.vm ∧ U_.heap = h0) (fun _ _ _ _ _ => True) (fun _ U_ o_ V_ => ∃ v_ L_, o_ = .returned v_ ∧ Qsz1 Z x h0 n0 v_ V_.heap L_ ∧ FrameEnd U_ o_ V_ L_ ({ frames := 0, cells := 0, slots := 0, locals := 0 } : Room).cells ({ frames := 0, cells := 0, slots := 0, locals := 0 } : Room).slots) := by
  refine MetFree.of_bodySF (plainFor_of_name pn_2) hisR ?_
  intro p e s m args below meth c s₁ Bd hml0 hP hK
  obtain ⟨rfl, hZ, hh⟩ := hP
  have hx := Bd.exec
  have hby := Bd.bytes
  have hml : c.maxLocals = 1 := hml0
  have hown : s.vm.findClass "com/example/evenkeel/evenkeel/sim/LaneLayouts" = some m.cls := findClass_of_methodNamed Bd.named
  have hnm := (name_of_methodNamed Bd.named Bd.method).1
  have X0 : Stand p l e ({ frames := 0, cells := 0, slots := 0, locals := 0 } : Room) s m #[(.ref x)] below meth c s₁ [] 0 0 := Stand.of_body Bd
  have e0 : s₁.heap = h0 := by rw [← hh, Bd.state]; rfl
  have N0 := Fr.nil n0
  have lt195 := own_alt q0.lt
  have lt196 := own_alt q1.lt
  refine Gl.go (A := s₁.setTop (entryFrame m #[(.ref x)] 1)) (P := fun o_ U_ => ∃ v_ L_, o_ = .returned v_ ∧ Qsz1 Z x h0 n0 v_ U_.heap L_ ∧ FrameEnd s o_ U_ L_ ({ frames := 0, cells := 0, slots := 0, locals := 0 } : Room).cells ({ frames := 0, cells := 0, slots := 0, locals := 0 } : Room).slots) (fun t_ k_ => castTop (ef_sz1 m x) k_) ?_
  show Gl p.tables e below _ (s₁.setTop (mkF m 0 #[.val (.ref x)] []))
  refine Gl.go (fun _ hr => zXS_aloadN X0.here hx rfl (hb hby d5_0) rfl rfl hr) ?_
  refine gGetF (host := "") Gl.cl X0 hx hZ hown (Or.inl (hw _ (List.mem_of_getElem? (i := 29) rfl))) Via.refl e0 q0 rfl rfl (hb hby d5_1) ?_
  intro T197 X197 e197
  refine Gl.go (fun _ hr => zXS_aloadN X197.here hx rfl (hb hby d5_4) rfl rfl hr) ?_
  refine gGetF (host := "") Gl.cl X197 hx hZ hown (Or.inl (hw _ (List.mem_of_getElem? (i := 38) rfl))) Via.refl e197 q1 rfl rfl (hb hby d5_5) ?_
  intro T198 X198 e198
  refine Gl.go (fun _ hr => zXS_isub X198.here hx rfl (hb hby d5_8) rfl hr) ?_
  obtain ⟨fs, hr, hrun, hended, hW, hsame⟩ := X198.leave (v := some (.int (2 : Int32))) (fun h => by rw [Bd.returns] at h; cases h)
  refine ⟨_, _, retOut X198 hx Bd.returns rfl (Or.inl ⟨rfl, Or.inl rfl, _, rfl⟩) (hb hby d5_9) hr, hrun, hended, _, _, rfl, ?_, ⟨⟨_, rfl⟩, hW, hsame.mono (by decide) (by decide)⟩⟩
  show Qsz1 Z x h0 n0 _ T198.heap _
  rw [e198]
  exact ⟨rfl, N0, rfl⟩
def Qsz2 (Z : State) (x : Addr) (h0 : Heap) (n0 : Nat) (v : Option Value) (h : Heap) (L : List Loc) : Prop := v = some (.int (1 : Int32)) ∧ Fr n0 L ∧ h = h0
theorem ef_sz2 (m : MethodId) (x0 : Addr) : entryFrame m #[(.ref x0)] 1 = mkF m 0 #[.val (.ref x0)] [] := by first | (simp [entryFrame, mkF, argsToLocals, Value.category]; done) | rfl
set_option maxRecDepth 65536 in
set_option maxHeartbeats 40000000 in
theorem sz2 (l : Launch) (Z : State) (a0 : Array Value) (hw : ∀ d ∈ tables_1, d.before a0 Z = true) (ws : List Jvm.Cond) (x : Addr) (h0 : Heap) (n0 : Nat) (Z0 : n0 ≤ h0.size) (q0 : Fld Z h0 x "com/example/evenkeel/evenkeel/sim/LaneLayouts" "end" "I" (.int (3 : Int32))) (q1 : Fld Z h0 x "com/example/evenkeel/evenkeel/sim/LaneLayouts" "first" "I" (.int (2 : Int32))) :
    MetFree l (⟨"com/example/evenkeel/evenkeel/sim/LaneLayouts", "size", "()I"⟩ : MethodName) (head1 (Jvm.Cond.code (⟨"com/example/evenkeel/evenkeel/sim/LaneLayouts", "size", "()I"⟩ : MethodName) prog_130_method_3_code 1 (some .int) :: ws) ({ frames := 0, cells := 0, slots := 0, locals := 0 } : Room)) (fun a_ U_ => a_ = #[(.ref x)] ∧ Z.Warmed39 U_.vm ∧ U_.heap = h0) (fun _ _ _ _ _ => True) (fun _ U_ o_ V_ => ∃ v_ L_, o_ = .returned v_ ∧ Qsz2 Z x h0 n0 v_ V_.heap L_ ∧ FrameEnd U_ o_ V_ L_ ({ frames := 0, cells := 0, slots := 0, locals := 0 } : Room).cells ({ frames := 0, cells := 0, slots := 0, locals := 0 } : Room).slots) := by
  refine MetFree.of_bodySF (plainFor_of_name pn_2) hisR ?_
  intro p e s m args below meth c s₁ Bd hml0 hP hK
  obtain ⟨rfl, hZ, hh⟩ := hP
  have hx := Bd.exec
  have hby := Bd.bytes
  have hml : c.maxLocals = 1 := hml0
  have hown : s.vm.findClass "com/example/evenkeel/evenkeel/sim/LaneLayouts" = some m.cls := findClass_of_methodNamed Bd.named
  have hnm := (name_of_methodNamed Bd.named Bd.method).1
  have X0 : Stand p l e ({ frames := 0, cells := 0, slots := 0, locals := 0 } : Room) s m #[(.ref x)] below meth c s₁ [] 0 0 := Stand.of_body Bd
  have e0 : s₁.heap = h0 := by rw [← hh, Bd.state]; rfl
  have N0 := Fr.nil n0
  have lt199 := own_alt q0.lt
  have lt200 := own_alt q1.lt
  refine Gl.go (A := s₁.setTop (entryFrame m #[(.ref x)] 1)) (P := fun o_ U_ => ∃ v_ L_, o_ = .returned v_ ∧ Qsz2 Z x h0 n0 v_ U_.heap L_ ∧ FrameEnd s o_ U_ L_ ({ frames := 0, cells := 0, slots := 0, locals := 0 } : Room).cells ({ frames := 0, cells := 0, slots := 0, locals := 0 } : Room).slots) (fun t_ k_ => castTop (ef_sz2 m x) k_) ?_
  show Gl p.tables e below _ (s₁.setTop (mkF m 0 #[.val (.ref x)] []))
  refine Gl.go (fun _ hr => zXS_aloadN X0.here hx rfl (hb hby d5_0) rfl rfl hr) ?_
  refine gGetF (host := "") Gl.cl X0 hx hZ hown (Or.inl (hw _ (List.mem_of_getElem? (i := 29) rfl))) Via.refl e0 q0 rfl rfl (hb hby d5_1) ?_
  intro T201 X201 e201
  refine Gl.go (fun _ hr => zXS_aloadN X201.here hx rfl (hb hby d5_4) rfl rfl hr) ?_
  refine gGetF (host := "") Gl.cl X201 hx hZ hown (Or.inl (hw _ (List.mem_of_getElem? (i := 38) rfl))) Via.refl e201 q1 rfl rfl (hb hby d5_5) ?_
  intro T202 X202 e202
  refine Gl.go (fun _ hr => zXS_isub X202.here hx rfl (hb hby d5_8) rfl hr) ?_
  obtain ⟨fs, hr, hrun, hended, hW, hsame⟩ := X202.leave (v := some (.int (1 : Int32))) (fun h => by rw [Bd.returns] at h; cases h)
  refine ⟨_, _, retOut X202 hx Bd.returns rfl (Or.inl ⟨rfl, Or.inl rfl, _, rfl⟩) (hb hby d5_9) hr, hrun, hended, _, _, rfl, ?_, ⟨⟨_, rfl⟩, hW, hsame.mono (by decide) (by decide)⟩⟩
  show Qsz2 Z x h0 n0 _ T202.heap _
  rw [e202]
  exact ⟨rfl, N0, rfl⟩
def Qsz3 (Z : State) (x : Addr) (h0 : Heap) (n0 : Nat) (v : Option Value) (h : Heap) (L : List Loc) : Prop := v = some (.int (0 : Int32)) ∧ Fr n0 L ∧ h = h0
theorem ef_sz3 (m : MethodId) (x0 : Addr) : entryFrame m #[(.ref x0)] 1 = mkF m 0 #[.val (.ref x0)] [] := by first | (simp [entryFrame, mkF, argsToLocals, Value.category]; done) | rfl
set_option maxRecDepth 65536 in
set_option maxHeartbeats 40000000 in
theorem sz3 (l : Launch) (Z : State) (a0 : Array Value) (hw : ∀ d ∈ tables_1, d.before a0 Z = true) (ws : List Jvm.Cond) (x : Addr) (h0 : Heap) (n0 : Nat) (Z0 : n0 ≤ h0.size) (q0 : Fld Z h0 x "com/example/evenkeel/evenkeel/sim/LaneLayouts" "end" "I" (.int (3 : Int32))) (q1 : Fld Z h0 x "com/example/evenkeel/evenkeel/sim/LaneLayouts" "first" "I" (.int (3 : Int32))) :
    MetFree l (⟨"com/example/evenkeel/evenkeel/sim/LaneLayouts", "size", "()I"⟩ : MethodName) (head1 (Jvm.Cond.code (⟨"com/example/evenkeel/evenkeel/sim/LaneLayouts", "size", "()I"⟩ : MethodName) prog_130_method_3_code 1 (some .int) :: ws) ({ frames := 0, cells := 0, slots := 0, locals := 0 } : Room)) (fun a_ U_ => a_ = #[(.ref x)] ∧ Z.Warmed39 U_.vm ∧ U_.heap = h0) (fun _ _ _ _ _ => True) (fun _ U_ o_ V_ => ∃ v_ L_, o_ = .returned v_ ∧ Qsz3 Z x h0 n0 v_ V_.heap L_ ∧ FrameEnd U_ o_ V_ L_ ({ frames := 0, cells := 0, slots := 0, locals := 0 } : Room).cells ({ frames := 0, cells := 0, slots := 0, locals := 0 } : Room).slots) := by
  refine MetFree.of_bodySF (plainFor_of_name pn_2) hisR ?_
  intro p e s m args below meth c s₁ Bd hml0 hP hK
  obtain ⟨rfl, hZ, hh⟩ := hP
  have hx := Bd.exec
  have hby := Bd.bytes
  have hml : c.maxLocals = 1 := hml0
  have hown : s.vm.findClass "com/example/evenkeel/evenkeel/sim/LaneLayouts" = some m.cls := findClass_of_methodNamed Bd.named
  have hnm := (name_of_methodNamed Bd.named Bd.method).1
  have X0 : Stand p l e ({ frames := 0, cells := 0, slots := 0, locals := 0 } : Room) s m #[(.ref x)] below meth c s₁ [] 0 0 := Stand.of_body Bd
  have e0 : s₁.heap = h0 := by rw [← hh, Bd.state]; rfl
  have N0 := Fr.nil n0
  have lt203 := own_alt q0.lt
  have lt204 := own_alt q1.lt
  refine Gl.go (A := s₁.setTop (entryFrame m #[(.ref x)] 1)) (P := fun o_ U_ => ∃ v_ L_, o_ = .returned v_ ∧ Qsz3 Z x h0 n0 v_ U_.heap L_ ∧ FrameEnd s o_ U_ L_ ({ frames := 0, cells := 0, slots := 0, locals := 0 } : Room).cells ({ frames := 0, cells := 0, slots := 0, locals := 0 } : Room).slots) (fun t_ k_ => castTop (ef_sz3 m x) k_) ?_
  show Gl p.tables e below _ (s₁.setTop (mkF m 0 #[.val (.ref x)] []))
  refine Gl.go (fun _ hr => zXS_aloadN X0.here hx rfl (hb hby d5_0) rfl rfl hr) ?_
  refine gGetF (host := "") Gl.cl X0 hx hZ hown (Or.inl (hw _ (List.mem_of_getElem? (i := 29) rfl))) Via.refl e0 q0 rfl rfl (hb hby d5_1) ?_
  intro T205 X205 e205
  refine Gl.go (fun _ hr => zXS_aloadN X205.here hx rfl (hb hby d5_4) rfl rfl hr) ?_
  refine gGetF (host := "") Gl.cl X205 hx hZ hown (Or.inl (hw _ (List.mem_of_getElem? (i := 38) rfl))) Via.refl e205 q1 rfl rfl (hb hby d5_5) ?_
  intro T206 X206 e206
  refine Gl.go (fun _ hr => zXS_isub X206.here hx rfl (hb hby d5_8) rfl hr) ?_
  obtain ⟨fs, hr, hrun, hended, hW, hsame⟩ := X206.leave (v := some (.int (0 : Int32))) (fun h => by rw [Bd.returns] at h; cases h)
  refine ⟨_, _, retOut X206 hx Bd.returns rfl (Or.inl ⟨rfl, Or.inl rfl, _, rfl⟩) (hb hby d5_9) hr, hrun, hended, _, _, rfl, ?_, ⟨⟨_, rfl⟩, hW, hsame.mono (by decide) (by decide)⟩⟩
  show Qsz3 Z x h0 n0 _ T206.heap _
  rw [e206]
  exact ⟨rfl, N0, rfl⟩
def Qtal0 (Z : State)  (h0 : Heap) (n0 : Nat) (v : Option Value) (h : Heap) (L : List Loc) : Prop := v = some (.int (-1 : Int32)) ∧ Fr n0 L ∧ h = h0
theorem ef_tal0 (m : MethodId) (x0 : Int32) (x1 : Int32) : entryFrame m #[(.int x0), (.int x1)] 3 = mkF m 0 #[.val (.int x0), .val (.int x1), .unset] [] := by first | (simp [entryFrame, mkF, argsToLocals, Value.category]; done) | rfl
theorem d13_0 : decode prog_130_method_8_code 0 = .ok (.iconst (-1), 1) := by decide +kernel
theorem d13_1 : decode prog_130_method_8_code 1 = .ok (.istore_n 2, 1) := by decide +kernel
theorem d13_2 : decode prog_130_method_8_code 2 = .ok (.iload_n 2, 1) := by decide +kernel
theorem d13_3 : decode prog_130_method_8_code 3 = .ok (.getstatic 18, 3) := by decide +kernel
theorem d13_6 : decode prog_130_method_8_code 6 = .ok (.if_icmp .ge 32, 3) := by decide +kernel
theorem d13_9 : decode prog_130_method_8_code 9 = .ok (.iload_n 0, 1) := by decide +kernel
theorem d13_10 : decode prog_130_method_8_code 10 = .ok (.bipush 32, 2) := by decide +kernel
theorem d13_12 : decode prog_130_method_8_code 12 = .ok (.iload_n 2, 1) := by decide +kernel
theorem d13_13 : decode prog_130_method_8_code 13 = .ok (.iconst 1, 1) := by decide +kernel
theorem d13_14 : decode prog_130_method_8_code 14 = .ok (.iadd, 1) := by decide +kernel
theorem d13_15 : decode prog_130_method_8_code 15 = .ok (.ishl, 1) := by decide +kernel
theorem d13_16 : decode prog_130_method_8_code 16 = .ok (.irem, 1) := by decide +kernel
theorem d13_17 : decode prog_130_method_8_code 17 = .ok (.ifCond .ne 21, 3) := by decide +kernel
theorem d13_20 : decode prog_130_method_8_code 20 = .ok (.iload_n 1, 1) := by decide +kernel
theorem d13_21 : decode prog_130_method_8_code 21 = .ok (.iload_n 0, 1) := by decide +kernel
theorem d13_22 : decode prog_130_method_8_code 22 = .ok (.isub, 1) := by decide +kernel
theorem d13_23 : decode prog_130_method_8_code 23 = .ok (.bipush 32, 2) := by decide +kernel
theorem d13_25 : decode prog_130_method_8_code 25 = .ok (.iload_n 2, 1) := by decide +kernel
theorem d13_26 : decode prog_130_method_8_code 26 = .ok (.iconst 1, 1) := by decide +kernel
theorem d13_27 : decode prog_130_method_8_code 27 = .ok (.iadd, 1) := by decide +kernel
theorem d13_28 : decode prog_130_method_8_code 28 = .ok (.ishl, 1) := by decide +kernel
theorem d13_29 : decode prog_130_method_8_code 29 = .ok (.if_icmp .lt 9, 3) := by decide +kernel
theorem d13_38 : decode prog_130_method_8_code 38 = .ok (.iload_n 2, 1) := by decide +kernel
theorem d13_39 : decode prog_130_method_8_code 39 = .ok (.ireturn, 1) := by decide +kernel
set_option maxRecDepth 65536 in
set_option maxHeartbeats 40000000 in
theorem tal0 (l : Launch) (Z : State) (a0 : Array Value) (hw : ∀ d ∈ tables_1, d.before a0 Z = true) (ws : List Jvm.Cond)  (h0 : Heap) (n0 : Nat) (Z0 : n0 ≤ h0.size) (q0 : Old Z n0 h0) (q1 : Sta Z Z.heap "com/example/evenkeel/evenkeel/sim/LaneLayouts" "TALLEST" "I" (.int (25 : Int32))) :
    MetFree l (⟨"com/example/evenkeel/evenkeel/sim/LaneLayouts", "tallestFrom", "(II)I"⟩ : MethodName) (head1 (Jvm.Cond.code (⟨"com/example/evenkeel/evenkeel/sim/LaneLayouts", "tallestFrom", "(II)I"⟩ : MethodName) prog_130_method_8_code 3 (some .int) :: ws) ({ frames := 0, cells := 0, slots := 0, locals := 0 } : Room)) (fun a_ U_ => a_ = #[(.int (0 : Int32)), (.int (2 : Int32))] ∧ Z.Warmed39 U_.vm ∧ U_.heap = h0) (fun _ _ _ _ _ => True) (fun _ U_ o_ V_ => ∃ v_ L_, o_ = .returned v_ ∧ Qtal0 Z  h0 n0 v_ V_.heap L_ ∧ FrameEnd U_ o_ V_ L_ ({ frames := 0, cells := 0, slots := 0, locals := 0 } : Room).cells ({ frames := 0, cells := 0, slots := 0, locals := 0 } : Room).slots) := by
  refine MetFree.of_bodySF (plainFor_of_name pn_2) hisR ?_
  intro p e s m args below meth c s₁ Bd hml0 hP hK
  obtain ⟨rfl, hZ, hh⟩ := hP
  have hx := Bd.exec
  have hby := Bd.bytes
  have hml : c.maxLocals = 3 := hml0
  have hown : s.vm.findClass "com/example/evenkeel/evenkeel/sim/LaneLayouts" = some m.cls := findClass_of_methodNamed Bd.named
  have hnm := (name_of_methodNamed Bd.named Bd.method).1
  have X0 : Stand p l e ({ frames := 0, cells := 0, slots := 0, locals := 0 } : Room) s m #[(.int (0 : Int32)), (.int (2 : Int32))] below meth c s₁ [] 0 0 := Stand.of_body Bd
  have e0 : s₁.heap = h0 := by rw [← hh, Bd.state]; rfl
  have N0 := Fr.nil n0
  have zo := q0.1
  refine Gl.go (A := s₁.setTop (entryFrame m #[(.int (0 : Int32)), (.int (2 : Int32))] 3)) (P := fun o_ U_ => ∃ v_ L_, o_ = .returned v_ ∧ Qtal0 Z  h0 n0 v_ U_.heap L_ ∧ FrameEnd s o_ U_ L_ ({ frames := 0, cells := 0, slots := 0, locals := 0 } : Room).cells ({ frames := 0, cells := 0, slots := 0, locals := 0 } : Room).slots) (fun t_ k_ => castTop (ef_tal0 m (0 : Int32) (2 : Int32)) k_) ?_
  show Gl p.tables e below _ (s₁.setTop (mkF m 0 #[.val (.int (0 : Int32)), .val (.int (2 : Int32)), .unset] []))
  refine Gl.go (fun _ hr => zXS_iconst X0.here hx rfl (hb hby d13_0) (zXS_istoreN X0.here hx rfl (hb hby d13_1) rfl (l' := #[.val (.int (0 : Int32)), .val (.int (2 : Int32)), .val (.int (-1 : Int32))]) rfl (zXS_iloadN X0.here hx rfl (hb hby d13_2) rfl hr))) ?_
  refine gGetS (host := "") Gl.cl X0 hx hZ hown (Or.inl (hw _ (List.mem_of_getElem? (i := 18) rfl))) Via.refl e0 (q1.ext q0.2) rfl (hb hby d13_3) ?_
  intro T207 X207 e207
  refine Gl.go (fun _ hr => zXS_icmpNo X207.here hx rfl (hb hby d13_6) rfl (XT.ii_ge_f (by decide)) (zXS_iloadN X207.here hx rfl (hb hby d13_9) rfl (zXS_bipush X207.here hx rfl (hb hby d13_10) (zXS_iloadN X207.here hx rfl (hb hby d13_12) rfl (zXS_iconst X207.here hx rfl (hb hby d13_13) (zXS_iadd X207.here hx rfl (hb hby d13_14) rfl (zXT_ishl X207.here hx rfl (hb hby d13_15) rfl (zRW_iremM X207 hx rfl (hb hby d13_16) rfl (by decide) (zXS_ifNo X207.here hx rfl (hb hby d13_17) rfl (XT.i0_ne_f (by decide)) (zXS_iloadN X207.here hx rfl (hb hby d13_20) rfl hr)))))))))) ?_
  refine Gl.go (fun _ hr => zXS_iloadN X207.here hx rfl (hb hby d13_21) rfl (zXS_isub X207.here hx rfl (hb hby d13_22) rfl (zXS_bipush X207.here hx rfl (hb hby d13_23) (zXS_iloadN X207.here hx rfl (hb hby d13_25) rfl (zXS_iconst X207.here hx rfl (hb hby d13_26) (zXS_iadd X207.here hx rfl (hb hby d13_27) rfl (zXT_ishl X207.here hx rfl (hb hby d13_28) rfl (zXS_icmpYes X207.here hx rfl (pc0 := 29) (pc' := 38) rfl (hb hby d13_29) rfl (XT.ii_lt_t (by decide)) (by decide) (by decide) (zXS_iloadN X207.here hx rfl (hb hby d13_38) rfl hr))))))))) ?_
  obtain ⟨fs, hr, hrun, hended, hW, hsame⟩ := X207.leave (v := some (.int (-1 : Int32))) (fun h => by rw [Bd.returns] at h; cases h)
  refine ⟨_, _, retOut X207 hx Bd.returns rfl (Or.inl ⟨rfl, Or.inl rfl, _, rfl⟩) (hb hby d13_39) hr, hrun, hended, _, _, rfl, ?_, ⟨⟨_, rfl⟩, hW, hsame.mono (by decide) (by decide)⟩⟩
  show Qtal0 Z  h0 n0 _ T207.heap _
  rw [e207]
  exact ⟨rfl, N0, rfl⟩
def Qtal1 (Z : State)  (h0 : Heap) (n0 : Nat) (v : Option Value) (h : Heap) (L : List Loc) : Prop := v = some (.int (-1 : Int32)) ∧ Fr n0 L ∧ h = h0
theorem ef_tal1 (m : MethodId) (x0 : Int32) (x1 : Int32) : entryFrame m #[(.int x0), (.int x1)] 3 = mkF m 0 #[.val (.int x0), .val (.int x1), .unset] [] := by first | (simp [entryFrame, mkF, argsToLocals, Value.category]; done) | rfl
set_option maxRecDepth 65536 in
set_option maxHeartbeats 40000000 in
theorem tal1 (l : Launch) (Z : State) (a0 : Array Value) (hw : ∀ d ∈ tables_1, d.before a0 Z = true) (ws : List Jvm.Cond)  (h0 : Heap) (n0 : Nat) (Z0 : n0 ≤ h0.size) (q0 : Old Z n0 h0) (q1 : Sta Z Z.heap "com/example/evenkeel/evenkeel/sim/LaneLayouts" "TALLEST" "I" (.int (25 : Int32))) :
    MetFree l (⟨"com/example/evenkeel/evenkeel/sim/LaneLayouts", "tallestFrom", "(II)I"⟩ : MethodName) (head1 (Jvm.Cond.code (⟨"com/example/evenkeel/evenkeel/sim/LaneLayouts", "tallestFrom", "(II)I"⟩ : MethodName) prog_130_method_8_code 3 (some .int) :: ws) ({ frames := 0, cells := 0, slots := 0, locals := 0 } : Room)) (fun a_ U_ => a_ = #[(.int (1 : Int32)), (.int (2 : Int32))] ∧ Z.Warmed39 U_.vm ∧ U_.heap = h0) (fun _ _ _ _ _ => True) (fun _ U_ o_ V_ => ∃ v_ L_, o_ = .returned v_ ∧ Qtal1 Z  h0 n0 v_ V_.heap L_ ∧ FrameEnd U_ o_ V_ L_ ({ frames := 0, cells := 0, slots := 0, locals := 0 } : Room).cells ({ frames := 0, cells := 0, slots := 0, locals := 0 } : Room).slots) := by
  refine MetFree.of_bodySF (plainFor_of_name pn_2) hisR ?_
  intro p e s m args below meth c s₁ Bd hml0 hP hK
  obtain ⟨rfl, hZ, hh⟩ := hP
  have hx := Bd.exec
  have hby := Bd.bytes
  have hml : c.maxLocals = 3 := hml0
  have hown : s.vm.findClass "com/example/evenkeel/evenkeel/sim/LaneLayouts" = some m.cls := findClass_of_methodNamed Bd.named
  have hnm := (name_of_methodNamed Bd.named Bd.method).1
  have X0 : Stand p l e ({ frames := 0, cells := 0, slots := 0, locals := 0 } : Room) s m #[(.int (1 : Int32)), (.int (2 : Int32))] below meth c s₁ [] 0 0 := Stand.of_body Bd
  have e0 : s₁.heap = h0 := by rw [← hh, Bd.state]; rfl
  have N0 := Fr.nil n0
  have zo := q0.1
  refine Gl.go (A := s₁.setTop (entryFrame m #[(.int (1 : Int32)), (.int (2 : Int32))] 3)) (P := fun o_ U_ => ∃ v_ L_, o_ = .returned v_ ∧ Qtal1 Z  h0 n0 v_ U_.heap L_ ∧ FrameEnd s o_ U_ L_ ({ frames := 0, cells := 0, slots := 0, locals := 0 } : Room).cells ({ frames := 0, cells := 0, slots := 0, locals := 0 } : Room).slots) (fun t_ k_ => castTop (ef_tal1 m (1 : Int32) (2 : Int32)) k_) ?_
  show Gl p.tables e below _ (s₁.setTop (mkF m 0 #[.val (.int (1 : Int32)), .val (.int (2 : Int32)), .unset] []))
  refine Gl.go (fun _ hr => zXS_iconst X0.here hx rfl (hb hby d13_0) (zXS_istoreN X0.here hx rfl (hb hby d13_1) rfl (l' := #[.val (.int (1 : Int32)), .val (.int (2 : Int32)), .val (.int (-1 : Int32))]) rfl (zXS_iloadN X0.here hx rfl (hb hby d13_2) rfl hr))) ?_
  refine gGetS (host := "") Gl.cl X0 hx hZ hown (Or.inl (hw _ (List.mem_of_getElem? (i := 18) rfl))) Via.refl e0 (q1.ext q0.2) rfl (hb hby d13_3) ?_
  intro T208 X208 e208
  refine Gl.go (fun _ hr => zXS_icmpNo X208.here hx rfl (hb hby d13_6) rfl (XT.ii_ge_f (by decide)) (zXS_iloadN X208.here hx rfl (hb hby d13_9) rfl (zXS_bipush X208.here hx rfl (hb hby d13_10) (zXS_iloadN X208.here hx rfl (hb hby d13_12) rfl (zXS_iconst X208.here hx rfl (hb hby d13_13) (zXS_iadd X208.here hx rfl (hb hby d13_14) rfl (zXT_ishl X208.here hx rfl (hb hby d13_15) rfl (zRW_iremM X208 hx rfl (hb hby d13_16) rfl (by decide) (zXS_ifYes X208.here hx rfl (pc0 := 17) (pc' := 38) rfl (hb hby d13_17) rfl (XT.i0_ne_t (by decide)) (by decide) (by decide) (zXS_iloadN X208.here hx rfl (hb hby d13_38) rfl hr)))))))))) ?_
  obtain ⟨fs, hr, hrun, hended, hW, hsame⟩ := X208.leave (v := some (.int (-1 : Int32))) (fun h => by rw [Bd.returns] at h; cases h)
  refine ⟨_, _, retOut X208 hx Bd.returns rfl (Or.inl ⟨rfl, Or.inl rfl, _, rfl⟩) (hb hby d13_39) hr, hrun, hended, _, _, rfl, ?_, ⟨⟨_, rfl⟩, hW, hsame.mono (by decide) (by decide)⟩⟩
  show Qtal1 Z  h0 n0 _ T208.heap _
  rw [e208]
  exact ⟨rfl, N0, rfl⟩
def Qst0 (Z : State) (x : Addr) (hob : Addr) (hok : ClassId) (mb : Addr) (mk : ClassId) (mv : List Value) (w0 : Int64) (w1 : Int64) (w2 : Int64) (fa : Addr) (fk : ClassId) (fv : Int64) (h0 : Heap) (n0 : Nat) (v : Option Value) (h : Heap) (L : List Loc) : Prop := ∃ (r : Addr), ∃ (rk : ClassId), v = some (.ref r) ∧ Fr n0 L ∧ Keep h0 h [] ∧ (Arv Z h r rk .long (3 : Int32) ([(.long fv), (.long (fv + w0)), (.long ((fv + w0) + w1))]) (.long (0 : Int64))) ∧ (@LE.le Nat instLENat h0.size r)
theorem ef_st0 (m : MethodId) (x0 : Addr) (x1 : Addr) : entryFrame m #[(.ref x0), (.ref x1)] 5 = mkF m 0 #[.val (.ref x0), .val (.ref x1), .unset, .unset, .unset] [] := by first | (simp [entryFrame, mkF, argsToLocals, Value.category]; done) | rfl
theorem d6_0 : decode prog_130_method_6_code 0 = .ok (.aload_n 1, 1) := by decide +kernel
theorem d6_1 : decode prog_130_method_6_code 1 = .ok (.invokevirtual 49, 3) := by decide +kernel
theorem d6_4 : decode prog_130_method_6_code 4 = .ok (.checkcast 50, 3) := by decide +kernel
theorem d6_7 : decode prog_130_method_6_code 7 = .ok (.astore_n 2, 1) := by decide +kernel
theorem d6_8 : decode prog_130_method_6_code 8 = .ok (.aload_n 2, 1) := by decide +kernel
theorem d6_9 : decode prog_130_method_6_code 9 = .ok (.invokestatic 54, 3) := by decide +kernel
theorem pd_3 : parseMethodDescriptor "([J)V" = some ⟨[(.array .long)], none⟩ := by decide +kernel
theorem d6_12 : decode prog_130_method_6_code 12 = .ok (.aload_n 0, 1) := by decide +kernel
theorem d6_13 : decode prog_130_method_6_code 13 = .ok (.invokevirtual 58, 3) := by decide +kernel
theorem pd_4 : parseMethodDescriptor "()I" = some ⟨[], some .int⟩ := by decide +kernel
theorem d6_16 : decode prog_130_method_6_code 16 = .ok (.newarray .long, 2) := by decide +kernel
theorem d6_18 : decode prog_130_method_6_code 18 = .ok (.astore_n 3, 1) := by decide +kernel
theorem d6_19 : decode prog_130_method_6_code 19 = .ok (.aload_n 0, 1) := by decide +kernel
theorem d6_20 : decode prog_130_method_6_code 20 = .ok (.getfield 28, 3) := by decide +kernel
theorem d6_23 : decode prog_130_method_6_code 23 = .ok (.istore 4, 2) := by decide +kernel
theorem d6_25 : decode prog_130_method_6_code 25 = .ok (.iload 4, 2) := by decide +kernel
theorem d6_27 : decode prog_130_method_6_code 27 = .ok (.aload_n 0, 1) := by decide +kernel
theorem d6_28 : decode prog_130_method_6_code 28 = .ok (.getfield 34, 3) := by decide +kernel
theorem d6_31 : decode prog_130_method_6_code 31 = .ok (.if_icmp .ge 37, 3) := by decide +kernel
theorem d6_34 : decode prog_130_method_6_code 34 = .ok (.aload_n 3, 1) := by decide +kernel
theorem d6_35 : decode prog_130_method_6_code 35 = .ok (.iload 4, 2) := by decide +kernel
theorem d6_37 : decode prog_130_method_6_code 37 = .ok (.aload_n 0, 1) := by decide +kernel
theorem d6_38 : decode prog_130_method_6_code 38 = .ok (.getfield 28, 3) := by decide +kernel
theorem d6_41 : decode prog_130_method_6_code 41 = .ok (.isub, 1) := by decide +kernel
theorem d6_42 : decode prog_130_method_6_code 42 = .ok (.aload_n 2, 1) := by decide +kernel
theorem d6_43 : decode prog_130_method_6_code 43 = .ok (.iconst 0, 1) := by decide +kernel
theorem d6_44 : decode prog_130_method_6_code 44 = .ok (.laload, 1) := by decide +kernel
theorem d6_45 : decode prog_130_method_6_code 45 = .ok (.lastore, 1) := by decide +kernel
theorem d6_46 : decode prog_130_method_6_code 46 = .ok (.aload_n 2, 1) := by decide +kernel
theorem d6_47 : decode prog_130_method_6_code 47 = .ok (.aload_n 0, 1) := by decide +kernel
theorem d6_48 : decode prog_130_method_6_code 48 = .ok (.getfield 7, 3) := by decide +kernel
theorem d6_51 : decode prog_130_method_6_code 51 = .ok (.iload 4, 2) := by decide +kernel
theorem d6_53 : decode prog_130_method_6_code 53 = .ok (.aload_n 0, 1) := by decide +kernel
theorem d6_54 : decode prog_130_method_6_code 54 = .ok (.getfield 31, 3) := by decide +kernel
theorem d6_57 : decode prog_130_method_6_code 57 = .ok (.isub, 1) := by decide +kernel
theorem d6_58 : decode prog_130_method_6_code 58 = .ok (.laload, 1) := by decide +kernel
theorem d6_59 : decode prog_130_method_6_code 59 = .ok (.invokestatic 62, 3) := by decide +kernel
theorem pd_5 : parseMethodDescriptor "([JJ)V" = some ⟨[(.array .long), .long], none⟩ := by decide +kernel
theorem d6_62 : decode prog_130_method_6_code 62 = .ok (.iinc 4 1, 3) := by decide +kernel
theorem d6_65 : decode prog_130_method_6_code 65 = .ok (.goto (-40), 3) := by decide +kernel
theorem d6_68 : decode prog_130_method_6_code 68 = .ok (.aload_n 3, 1) := by decide +kernel
theorem d6_69 : decode prog_130_method_6_code 69 = .ok (.areturn, 1) := by decide +kernel
set_option maxRecDepth 65536 in
set_option maxHeartbeats 40000000 in
theorem st0 (l : Launch) (Z : State) (a0 : Array Value) (hw : ∀ d ∈ tables_1, d.before a0 Z = true) (ws : List Jvm.Cond) (x : Addr) (hob : Addr) (hok : ClassId) (mb : Addr) (mk : ClassId) (mv : List Value) (w0 : Int64) (w1 : Int64) (w2 : Int64) (fa : Addr) (fk : ClassId) (fv : Int64) (h0 : Heap) (n0 : Nat) (Z0 : n0 ≤ h0.size) (q0 : Exa Z h0 x "com/example/evenkeel/evenkeel/sim/LaneLayouts") (q1 : Fld Z h0 x "com/example/evenkeel/evenkeel/sim/LaneLayouts" "holds" "[J" (.ref hob)) (q2 : Fld Z h0 x "com/example/evenkeel/evenkeel/sim/LaneLayouts" "base" "I" (.int (0 : Int32))) (q3 : Fld Z h0 x "com/example/evenkeel/evenkeel/sim/LaneLayouts" "first" "I" (.int (0 : Int32))) (q4 : Fld Z h0 x "com/example/evenkeel/evenkeel/sim/LaneLayouts" "end" "I" (.int (3 : Int32))) (q5 : Fld Z h0 x "com/example/evenkeel/evenkeel/sim/LaneLayouts" "memories" "[[Lcom/example/evenkeel/evenkeel/sim/LaneLayouts$Memory;" (.ref mb)) (q6 : Arv Z h0 hob hok .long (64 : Int32) ([(.long w0), (.long w1), (.long w2)]) (.long (0 : Int64))) (q7 : Arv Z h0 mb mk (.array (.object "com/example/evenkeel/evenkeel/sim/LaneLayouts$Memory")) (1 : Int32) mv .null) (q8 : Arv Z h0 fa fk .long (1 : Int32) ([(.long fv)]) (.long (0 : Int64))) (q9 : Exa Z h0 fa "[J") :
    MetFree l (⟨"com/example/evenkeel/evenkeel/sim/LaneLayouts", "starts", "([J)[J"⟩ : MethodName) (head1 (Jvm.Cond.code (⟨"com/example/evenkeel/evenkeel/sim/LaneLayouts", "starts", "([J)[J"⟩ : MethodName) prog_130_method_6_code 5 (some (.array .long)) :: ws) ({ frames := 4, cells := 2, slots := 4, locals := 90 } : Room)) (fun a_ U_ => a_ = #[(.ref x), (.ref fa)] ∧ Z.Warmed39 U_.vm ∧ U_.heap = h0) (fun _ _ _ _ _ => True) (fun _ U_ o_ V_ => ∃ v_ L_, o_ = .returned v_ ∧ Qst0 Z x hob hok mb mk mv w0 w1 w2 fa fk fv h0 n0 v_ V_.heap L_ ∧ FrameEnd U_ o_ V_ L_ ({ frames := 4, cells := 2, slots := 4, locals := 90 } : Room).cells ({ frames := 4, cells := 2, slots := 4, locals := 90 } : Room).slots) := by
  refine MetFree.of_bodySF (plainFor_of_name pn_2) hisR ?_
  intro p e s m args below meth c s₁ Bd hml0 hP hK
  obtain ⟨rfl, hZ, hh⟩ := hP
  have hx := Bd.exec
  have hby := Bd.bytes
  have hml : c.maxLocals = 5 := hml0
  have hown : s.vm.findClass "com/example/evenkeel/evenkeel/sim/LaneLayouts" = some m.cls := findClass_of_methodNamed Bd.named
  have hnm := (name_of_methodNamed Bd.named Bd.method).1
  have X0 : Stand p l e ({ frames := 4, cells := 2, slots := 4, locals := 90 } : Room) s m #[(.ref x), (.ref fa)] below meth c s₁ [] 0 0 := Stand.of_body Bd
  have e0 : s₁.heap = h0 := by rw [← hh, Bd.state]; rfl
  have N0 := Fr.nil n0
  have lt209 := own_alt q0.lt
  have lt210 := own_alt q1.lt
  have lt211 := own_alt q2.lt
  have lt212 := own_alt q3.lt
  have lt213 := own_alt q4.lt
  have lt214 := own_alt q5.lt
  have lt215 := own_alt q6.lt
  have lt216 := own_alt q7.lt
  have lt217 := own_alt q8.lt
  have lt218 := own_alt q9.lt
  refine Gl.go (A := s₁.setTop (entryFrame m #[(.ref x), (.ref fa)] 5)) (P := fun o_ U_ => ∃ v_ L_, o_ = .returned v_ ∧ Qst0 Z x hob hok mb mk mv w0 w1 w2 fa fk fv h0 n0 v_ U_.heap L_ ∧ FrameEnd s o_ U_ L_ ({ frames := 4, cells := 2, slots := 4, locals := 90 } : Room).cells ({ frames := 4, cells := 2, slots := 4, locals := 90 } : Room).slots) (fun t_ k_ => castTop (ef_st0 m x fa) k_) ?_
  show Gl p.tables e below _ (s₁.setTop (mkF m 0 #[.val (.ref x), .val (.ref fa), .unset, .unset, .unset] []))
  refine Gl.go (fun _ hr => zXS_aloadN X0.here hx rfl (hb hby d6_0) rfl rfl hr) ?_
  obtain ⟨T219, h219, X219, e219, E219, V219, A219, st219⟩ := cloneH X0 hx hZ hown (hw _ (List.mem_of_getElem? (i := 50) rfl)) (hw _ (List.mem_of_getElem? (i := 51) rfl)) (hw _ (List.mem_of_getElem? (i := 55) rfl)) (hw _ (List.mem_of_getElem? (i := 53) rfl)) (hw _ (List.mem_of_getElem? (i := 54) rfl)) (hw _ (List.mem_of_getElem? (i := 56) rfl)) e0 (Arv.arh q8) q9 (g := (mkF m 1 #[.val (.ref x), .val (.ref fa), .unset, .unset, .unset] [(.ref fa)])) rfl (by rw [hml]; rfl) rfl (hb hby d6_1) (by decide) (W := 0) (cap := 1) (by show 2 * 0 + _ ≤ _; exact Nat.le_of_eq rfl) (by decide) (by decide) (by decide) (by decide)
  obtain ⟨b219, g219⟩ : ∃ z, z = h0.size := ⟨_, rfl⟩
  rw [← g219] at V219 A219 st219
  have z220 : h0.size ≤ h219.size := E219.1
  have lt219 := own_alt A219.lt
  have Va219 : Arv Z h219 b219 fk .long (1 : Int32) [(.long fv)] (.long (0 : Int64)) := V219
  refine Gl.go st219 ?_
  show Gl p.tables e below _ (T219.setTop (mkF m 4 #[.val (.ref x), .val (.ref fa), .unset, .unset, .unset] [(.ref b219)]))
  refine gCast Gl.cl X219 hx hZ hown (hw _ (List.mem_of_getElem? (i := 57) rfl)) e219 (Ins.self A219) rfl rfl (hb hby d6_4) ?_
  intro T221 X221 e221
  refine Gl.go (fun _ hr => zXS_astoreN X221.here hx rfl (hb hby d6_7) rfl rfl (l' := #[.val (.ref x), .val (.ref fa), .val (.ref b219), .unset, .unset]) rfl (zXS_aloadN X221.here hx rfl (hb hby d6_8) rfl rfl hr)) ?_
  have zz222 : n0 ≤ h219.size := by omega
  refine gStaticN Gl.cl (y := (⟨"java/util/Arrays", "sort", "([J)V"⟩ : MethodName)) (argsL := [(.ref b219)]) (rest := []) (mc := 0) (ms := 0) X221 hx hZ hown (mvT hZ (hw _ (List.mem_of_getElem? (i := 59) rfl))) (mvT hZ (hw _ (List.mem_of_getElem? (i := 60) rfl))) (mvT hZ (hw _ (List.mem_of_getElem? (i := 61) rfl))) (mvT hZ (hw _ (List.mem_of_getElem? (i := 62) rfl))) (by decide) (backOf (W := 0) (srt l Z a0 hw [] b219 fk fv h219 n0 zz222 Va219) hZ (hw _ (List.mem_of_getElem? (i := 62) rfl)) (hw _ (List.mem_of_getElem? (i := 61) rfl)) (by decide) (by decide)) rfl (by rw [hml]; rfl) (lenOf pd_3 rfl) rfl (by show 2 * 0 + _ ≤ _; exact Nat.le_of_eq rfl) (hb hby d6_9) rfl e221 (by decide) (by decide) ?_
  intro v222 T222 Lc222 hQ222 X222
  obtain ⟨rfl, Nq222, e222⟩ := hQ222
  have N222 := Fr.app N0 Nq222
  refine Gl.go (fun _ hr => zXS_aloadN X222.here hx rfl (hb hby d6_12) rfl rfl hr) ?_
  have Fc224 := (q4.ext E219)
  have Fc225 := (q3.ext E219)
  have zz223 : n0 ≤ h219.size := by omega
  have Ec226 := (q0.ext E219)
  refine gVirtualN Gl.cl (y := (⟨"com/example/evenkeel/evenkeel/sim/LaneLayouts", "size", "()I"⟩ : MethodName)) (z := (⟨"com/example/evenkeel/evenkeel/sim/LaneLayouts", "size", "()I"⟩ : MethodName)) (b := x) (argsL := []) (rest := []) (mc := 0) (ms := 0) X222 hx hZ hown (mvT hZ (hw _ (List.mem_of_getElem? (i := 73) rfl))) (mvT hZ (hw _ (List.mem_of_getElem? (i := 41) rfl))) (notFace_of_selects (args := #[]) (mvT hZ (hw _ (List.mem_of_getElem? (i := 43) rfl)))) (mvT hZ (hw _ (List.mem_of_getElem? (i := 43) rfl))) (mvT hZ (hw _ (List.mem_of_getElem? (i := 42) rfl))) (by decide) Ec226 (backOf (W := 0) (sz0 l Z a0 hw [] x h219 n0 zz223 Fc224 Fc225) hZ (hw _ (List.mem_of_getElem? (i := 44) rfl)) (hw _ (List.mem_of_getElem? (i := 3) rfl)) (by decide) (by decide)) rfl (by rw [hml]; rfl) (lenOf pd_4 rfl) rfl (by show 2 * 0 + _ ≤ _; exact Nat.le_of_eq rfl) (hb hby d6_13) rfl e222 (by decide) (by decide) ?_
  intro v223 T223 Lc223 hQ223 X223
  obtain ⟨rfl, Nq223, e223⟩ := hQ223
  have N223 := Fr.app N222 Nq223
  refine gNewPE Gl.cl X223 hx hZ (hw _ (List.mem_of_getElem? (i := 10) rfl)) e223 rfl (hb hby d6_16) rfl (by decide) (cap := 3) (by decide) (by decide) (by decide) (by decide) (ad := "[J") (by decide) ?_
  intro T227 h227 b227 k227 g227 X227 e227 E227 A227 B227
  have z228 : h219.size ≤ h227.size := E227.1
  have lt227 := own_alt A227.lt
  have V227 : Arv Z h227 b227 k227 .long (3 : Int32) [(.long (0 : Int64)), (.long (0 : Int64)), (.long (0 : Int64))] (.long (0 : Int64)) := (Arv.new A227 (by decide)).pad (pad_rep [] (.long (0 : Int64)) 3)
  refine Gl.go (fun _ hr => zXS_astoreN X227.here hx rfl (hb hby d6_18) rfl rfl (l' := #[.val (.ref x), .val (.ref fa), .val (.ref b219), .val (.ref b227), .unset]) rfl (zXS_aloadN X227.here hx rfl (hb hby d6_19) rfl rfl hr)) ?_
  have Fc229 := (Fc225.ext E227)
  refine gGetF (host := "") Gl.cl X227 hx hZ hown (Or.inl (hw _ (List.mem_of_getElem? (i := 38) rfl))) Via.refl e227 Fc229 rfl rfl (hb hby d6_20) ?_
  intro T230 X230 e230
  refine Gl.go (fun _ hr => zXS_istore X230.here hx rfl (hb hby d6_23) rfl (l' := #[.val (.ref x), .val (.ref fa), .val (.ref b219), .val (.ref b227), .val (.int (0 : Int32))]) rfl (zXS_iload X230.here hx rfl (hb hby d6_25) rfl (zXS_aloadN X230.here hx rfl (hb hby d6_27) rfl rfl hr))) ?_
  have Fc231 := (Fc224.ext E227)
  refine gGetF (host := "") Gl.cl X230 hx hZ hown (Or.inl (hw _ (List.mem_of_getElem? (i := 29) rfl))) Via.refl e230 Fc231 rfl rfl (hb hby d6_28) ?_
  intro T232 X232 e232
  refine Gl.go (fun _ hr => zXS_icmpNo X232.here hx rfl (hb hby d6_31) rfl (XT.ii_ge_f (by decide)) (zXS_aloadN X232.here hx rfl (hb hby d6_34) rfl rfl (zXS_iload X232.here hx rfl (hb hby d6_35) rfl (zXS_aloadN X232.here hx rfl (hb hby d6_37) rfl rfl hr)))) ?_
  refine gGetF (host := "") Gl.cl X232 hx hZ hown (Or.inl (hw _ (List.mem_of_getElem? (i := 38) rfl))) Via.refl e232 Fc229 rfl rfl (hb hby d6_38) ?_
  intro T233 X233 e233
  refine Gl.go (fun _ hr => zXS_isub X233.here hx rfl (hb hby d6_41) rfl (zXS_aloadN X233.here hx rfl (hb hby d6_42) rfl rfl (zXS_iconst X233.here hx rfl (hb hby d6_43) hr))) ?_
  have Vc234 := (Va219.ext E227)
  obtain ⟨c235, a235, q235, s235, m235, H235, U235⟩ := id Vc234
  have i235 := inb_of s235 (j := (0 : Int32)) ⟨(by decide), (by decide)⟩
  refine g_laload Gl.cl X233 hx hZ e233 a235 i235 (v := (.long fv)) (H235.at i235 rfl) rfl rfl (hb hby d6_44) ?_
  obtain ⟨c236, a236, q236, s236, m236, H236, U236⟩ := id V227
  refine gstJ Gl.cl X233 hx hZ e233 a236 (j := (0 : Int32)) (inb_of s236 ⟨(by decide), (by decide)⟩) rfl rfl (hb hby d6_45) ?_
  intro T236 h236 X236 e236 W236
  have z237 : h227.size ≤ h236.size := (Keep.of_wr W236).1
  have V236 : Arv Z h236 b227 k227 .long (3 : Int32) [(.long fv), (.long (0 : Int64)), (.long (0 : Int64))] (.long (0 : Int64)) := Arv.set a236 q236 s236 m236 H236 U236 rfl W236 0 rfl (Nat.le_of_ble_eq_true rfl)
  have N236 := Fr.snoc X236 N223 (own_ale (by omega))
  refine Gl.go (fun _ hr => zXS_aloadN X236.here hx rfl (hb hby d6_46) rfl rfl (zXS_aloadN X236.here hx rfl (hb hby d6_47) rfl rfl hr)) ?_
  have Fc238 := (((q1.ext E219).ext E227).other W236 (Or.inl (own_ane (by omega))))
  refine gGetF (host := "") Gl.cl X236 hx hZ hown (Or.inl (hw _ (List.mem_of_getElem? (i := 11) rfl))) Via.refl e236 Fc238 rfl rfl (hb hby d6_48) ?_
  intro T239 X239 e239
  refine Gl.go (fun _ hr => zXS_iload X239.here hx rfl (hb hby d6_51) rfl (zXS_aloadN X239.here hx rfl (hb hby d6_53) rfl rfl hr)) ?_
  have Fc240 := (((q2.ext E219).ext E227).other W236 (Or.inl (own_ane (by omega))))
  refine gGetF (host := "") Gl.cl X239 hx hZ hown (Or.inl (hw _ (List.mem_of_getElem? (i := 31) rfl))) Via.refl e239 Fc240 rfl rfl (hb hby d6_54) ?_
  intro T241 X241 e241
  refine Gl.go (fun _ hr => zXS_isub X241.here hx rfl (hb hby d6_57) rfl hr) ?_
  have Vc242 := (((q6.ext E219).ext E227).other W236 (own_ane (by omega)))
  obtain ⟨c243, a243, q243, s243, m243, H243, U243⟩ := id Vc242
  have i243 := inb_of s243 (j := (0 : Int32)) ⟨(by decide), (by decide)⟩
  refine g_laload Gl.cl X241 hx hZ e241 a243 i243 (v := (.long w0)) (H243.at i243 rfl) rfl rfl (hb hby d6_58) ?_
  have Vc245 := (Vc234.other W236 (own_ane (by omega)))
  have zz244 : n0 ≤ h236.size := by omega
  refine gStaticN Gl.cl (y := (⟨"com/example/evenkeel/evenkeel/sim/LaneLayouts", "take", "([JJ)V"⟩ : MethodName)) (argsL := [(.ref b219), (.long w0)]) (rest := []) (mc := 0) (ms := 0) X241 hx hZ hown (mvT hZ (hw _ (List.mem_of_getElem? (i := 74) rfl))) (mvT hZ (hw _ (List.mem_of_getElem? (i := 75) rfl))) (mvT hZ (hw _ (List.mem_of_getElem? (i := 3) rfl))) (mvT hZ (hw _ (List.mem_of_getElem? (i := 76) rfl))) (by decide) (backOf (W := 0) (tak l Z a0 hw [] b219 fk fv w0 h236 n0 zz244 (by omega) Vc245) hZ (hw _ (List.mem_of_getElem? (i := 76) rfl)) (hw _ (List.mem_of_getElem? (i := 3) rfl)) (by decide) (by decide)) rfl (by rw [hml]; rfl) (lenOf pd_5 rfl) rfl (by show 2 * 0 + _ ≤ _; exact Nat.le_of_eq rfl) (hb hby d6_59) rfl e241 (by decide) (by decide) ?_
  intro v244 T244 Lc244 hQ244 X244
  obtain ⟨rfl, Nq244, K244, f244_0⟩ := hQ244
  have z246 : h236.size ≤ T244.heap.size := K244.1
  have N244 := Fr.app N236 Nq244
  have lt247 := own_alt f244_0.lt
  refine Gl.go (fun _ hr => zXS_iinc X244.here hx rfl (hb hby d6_62) rfl (l' := #[.val (.ref x), .val (.ref fa), .val (.ref b219), .val (.ref b227), .val (.int (1 : Int32))]) rfl (zXS_goto X244.here hx rfl (pc0 := 65) (pc' := 25) rfl (hb hby d6_65) (by decide) (by decide) (zXS_iload X244.here hx rfl (hb hby d6_25) rfl (zXS_aloadN X244.here hx rfl (hb hby d6_27) rfl rfl hr)))) ?_
  have Fc248 := ((Fc231.other W236 (Or.inl (own_ane (by omega)))).keep K244 (ninS (own_ane (by omega)) nin0))
  refine gGetF (host := "") Gl.cl X244 hx hZ hown (Or.inl (hw _ (List.mem_of_getElem? (i := 29) rfl))) Via.refl (rfl : T244.heap = T244.heap) Fc248 rfl rfl (hb hby d6_28) ?_
  intro T249 X249 e249
  refine Gl.go (fun _ hr => zXS_icmpNo X249.here hx rfl (hb hby d6_31) rfl (XT.ii_ge_f (by decide)) (zXS_aloadN X249.here hx rfl (hb hby d6_34) rfl rfl (zXS_iload X249.here hx rfl (hb hby d6_35) rfl (zXS_aloadN X249.here hx rfl (hb hby d6_37) rfl rfl hr)))) ?_
  have Fc250 := ((Fc229.other W236 (Or.inl (own_ane (by omega)))).keep K244 (ninS (own_ane (by omega)) nin0))
  refine gGetF (host := "") Gl.cl X249 hx hZ hown (Or.inl (hw _ (List.mem_of_getElem? (i := 38) rfl))) Via.refl e249 Fc250 rfl rfl (hb hby d6_38) ?_
  intro T251 X251 e251
  refine Gl.go (fun _ hr => zXS_isub X251.here hx rfl (hb hby d6_41) rfl (zXS_aloadN X251.here hx rfl (hb hby d6_42) rfl rfl (zXS_iconst X251.here hx rfl (hb hby d6_43) hr))) ?_
  obtain ⟨c252, a252, q252, s252, m252, H252, U252⟩ := id f244_0
  have i252 := inb_of s252 (j := (0 : Int32)) ⟨(by decide), (by decide)⟩
  refine g_laload Gl.cl X251 hx hZ e251 a252 i252 (v := (.long (fv + w0))) (H252.at i252 rfl) rfl rfl (hb hby d6_44) ?_
  have Vc253 := (V236.keep K244 (ninS (own_ane (by omega)) nin0))
  obtain ⟨c254, a254, q254, s254, m254, H254, U254⟩ := id Vc253
  refine gstJ Gl.cl X251 hx hZ e251 a254 (j := (1 : Int32)) (inb_of s254 ⟨(by decide), (by decide)⟩) rfl rfl (hb hby d6_45) ?_
  intro T254 h254 X254 e254 W254
  have z255 : T244.heap.size ≤ h254.size := (Keep.of_wr W254).1
  have V254 : Arv Z h254 b227 k227 .long (3 : Int32) [(.long fv), (.long (fv + w0)), (.long (0 : Int64))] (.long (0 : Int64)) := Arv.set a254 q254 s254 m254 H254 U254 rfl W254 1 rfl (Nat.le_of_ble_eq_true rfl)
  have N254 := Fr.snoc X254 N244 (own_ale (by omega))
  refine Gl.go (fun _ hr => zXS_aloadN X254.here hx rfl (hb hby d6_46) rfl rfl (zXS_aloadN X254.here hx rfl (hb hby d6_47) rfl rfl hr)) ?_
  have Fc256 := ((Fc238.keep K244 (ninS (own_ane (by omega)) nin0)).other W254 (Or.inl (own_ane (by omega))))
  refine gGetF (host := "") Gl.cl X254 hx hZ hown (Or.inl (hw _ (List.mem_of_getElem? (i := 11) rfl))) Via.refl e254 Fc256 rfl rfl (hb hby d6_48) ?_
  intro T257 X257 e257
  refine Gl.go (fun _ hr => zXS_iload X257.here hx rfl (hb hby d6_51) rfl (zXS_aloadN X257.here hx rfl (hb hby d6_53) rfl rfl hr)) ?_
  have Fc258 := ((Fc240.keep K244 (ninS (own_ane (by omega)) nin0)).other W254 (Or.inl (own_ane (by omega))))
  refine gGetF (host := "") Gl.cl X257 hx hZ hown (Or.inl (hw _ (List.mem_of_getElem? (i := 31) rfl))) Via.refl e257 Fc258 rfl rfl (hb hby d6_54) ?_
  intro T259 X259 e259
  refine Gl.go (fun _ hr => zXS_isub X259.here hx rfl (hb hby d6_57) rfl hr) ?_
  have Vc260 := ((Vc242.keep K244 (ninS (own_ane (by omega)) nin0)).other W254 (own_ane (by omega)))
  obtain ⟨c261, a261, q261, s261, m261, H261, U261⟩ := id Vc260
  have i261 := inb_of s261 (j := (1 : Int32)) ⟨(by decide), (by decide)⟩
  refine g_laload Gl.cl X259 hx hZ e259 a261 i261 (v := (.long w1)) (H261.at i261 rfl) rfl rfl (hb hby d6_58) ?_
  have Vc263 := (f244_0.other W254 (own_ane (by omega)))
  have zz262 : n0 ≤ h254.size := by omega
  refine gStaticN Gl.cl (y := (⟨"com/example/evenkeel/evenkeel/sim/LaneLayouts", "take", "([JJ)V"⟩ : MethodName)) (argsL := [(.ref b219), (.long w1)]) (rest := []) (mc := 0) (ms := 0) X259 hx hZ hown (mvT hZ (hw _ (List.mem_of_getElem? (i := 74) rfl))) (mvT hZ (hw _ (List.mem_of_getElem? (i := 75) rfl))) (mvT hZ (hw _ (List.mem_of_getElem? (i := 3) rfl))) (mvT hZ (hw _ (List.mem_of_getElem? (i := 76) rfl))) (by decide) (backOf (W := 0) (tak l Z a0 hw [] b219 fk (fv + w0) w1 h254 n0 zz262 (by omega) Vc263) hZ (hw _ (List.mem_of_getElem? (i := 76) rfl)) (hw _ (List.mem_of_getElem? (i := 3) rfl)) (by decide) (by decide)) rfl (by rw [hml]; rfl) (lenOf pd_5 rfl) rfl (by show 2 * 0 + _ ≤ _; exact Nat.le_of_eq rfl) (hb hby d6_59) rfl e259 (by decide) (by decide) ?_
  intro v262 T262 Lc262 hQ262 X262
  obtain ⟨rfl, Nq262, K262, f262_0⟩ := hQ262
  have z264 : h254.size ≤ T262.heap.size := K262.1
  have N262 := Fr.app N254 Nq262
  have lt265 := own_alt f262_0.lt
  refine Gl.go (fun _ hr => zXS_iinc X262.here hx rfl (hb hby d6_62) rfl (l' := #[.val (.ref x), .val (.ref fa), .val (.ref b219), .val (.ref b227), .val (.int (2 : Int32))]) rfl (zXS_goto X262.here hx rfl (pc0 := 65) (pc' := 25) rfl (hb hby d6_65) (by decide) (by decide) (zXS_iload X262.here hx rfl (hb hby d6_25) rfl (zXS_aloadN X262.here hx rfl (hb hby d6_27) rfl rfl hr)))) ?_
  show Gl p.tables e below _ (T262.setTop (mkF m 28 #[.val (.ref x), .val (.ref fa), .val (.ref b219), .val (.ref b227), .val (.int (2 : Int32))] [(.ref x), (.int (2 : Int32))]))
  have Fc266 := ((Fc248.other W254 (Or.inl (own_ane (by omega)))).keep K262 (ninS (own_ane (by omega)) nin0))
  refine gGetF (host := "") Gl.cl X262 hx hZ hown (Or.inl (hw _ (List.mem_of_getElem? (i := 29) rfl))) Via.refl (rfl : T262.heap = T262.heap) Fc266 rfl rfl (hb hby d6_28) ?_
  intro T267 X267 e267
  refine Gl.go (fun _ hr => zXS_icmpNo X267.here hx rfl (hb hby d6_31) rfl (XT.ii_ge_f (by decide)) (zXS_aloadN X267.here hx rfl (hb hby d6_34) rfl rfl (zXS_iload X267.here hx rfl (hb hby d6_35) rfl (zXS_aloadN X267.here hx rfl (hb hby d6_37) rfl rfl hr)))) ?_
  have Fc268 := ((Fc250.other W254 (Or.inl (own_ane (by omega)))).keep K262 (ninS (own_ane (by omega)) nin0))
  refine gGetF (host := "") Gl.cl X267 hx hZ hown (Or.inl (hw _ (List.mem_of_getElem? (i := 38) rfl))) Via.refl e267 Fc268 rfl rfl (hb hby d6_38) ?_
  intro T269 X269 e269
  refine Gl.go (fun _ hr => zXS_isub X269.here hx rfl (hb hby d6_41) rfl (zXS_aloadN X269.here hx rfl (hb hby d6_42) rfl rfl (zXS_iconst X269.here hx rfl (hb hby d6_43) hr))) ?_
  obtain ⟨c270, a270, q270, s270, m270, H270, U270⟩ := id f262_0
  have i270 := inb_of s270 (j := (0 : Int32)) ⟨(by decide), (by decide)⟩
  refine g_laload Gl.cl X269 hx hZ e269 a270 i270 (v := (.long ((fv + w0) + w1))) (H270.at i270 rfl) rfl rfl (hb hby d6_44) ?_
  have Vc271 := (V254.keep K262 (ninS (own_ane (by omega)) nin0))
  obtain ⟨c272, a272, q272, s272, m272, H272, U272⟩ := id Vc271
  refine gstJ Gl.cl X269 hx hZ e269 a272 (j := (2 : Int32)) (inb_of s272 ⟨(by decide), (by decide)⟩) rfl rfl (hb hby d6_45) ?_
  intro T272 h272 X272 e272 W272
  have z273 : T262.heap.size ≤ h272.size := (Keep.of_wr W272).1
  have V272 : Arv Z h272 b227 k227 .long (3 : Int32) [(.long fv), (.long (fv + w0)), (.long ((fv + w0) + w1))] (.long (0 : Int64)) := Arv.set a272 q272 s272 m272 H272 U272 rfl W272 2 rfl (Nat.le_of_ble_eq_true rfl)
  have N272 := Fr.snoc X272 N262 (own_ale (by omega))
  refine Gl.go (fun _ hr => zXS_aloadN X272.here hx rfl (hb hby d6_46) rfl rfl (zXS_aloadN X272.here hx rfl (hb hby d6_47) rfl rfl hr)) ?_
  have Fc274 := ((Fc256.keep K262 (ninS (own_ane (by omega)) nin0)).other W272 (Or.inl (own_ane (by omega))))
  refine gGetF (host := "") Gl.cl X272 hx hZ hown (Or.inl (hw _ (List.mem_of_getElem? (i := 11) rfl))) Via.refl e272 Fc274 rfl rfl (hb hby d6_48) ?_
  intro T275 X275 e275
  refine Gl.go (fun _ hr => zXS_iload X275.here hx rfl (hb hby d6_51) rfl (zXS_aloadN X275.here hx rfl (hb hby d6_53) rfl rfl hr)) ?_
  have Fc276 := ((Fc258.keep K262 (ninS (own_ane (by omega)) nin0)).other W272 (Or.inl (own_ane (by omega))))
  refine gGetF (host := "") Gl.cl X275 hx hZ hown (Or.inl (hw _ (List.mem_of_getElem? (i := 31) rfl))) Via.refl e275 Fc276 rfl rfl (hb hby d6_54) ?_
  intro T277 X277 e277
  refine Gl.go (fun _ hr => zXS_isub X277.here hx rfl (hb hby d6_57) rfl hr) ?_
  have Vc278 := ((Vc260.keep K262 (ninS (own_ane (by omega)) nin0)).other W272 (own_ane (by omega)))
  obtain ⟨c279, a279, q279, s279, m279, H279, U279⟩ := id Vc278
  have i279 := inb_of s279 (j := (2 : Int32)) ⟨(by decide), (by decide)⟩
  refine g_laload Gl.cl X277 hx hZ e277 a279 i279 (v := (.long w2)) (H279.at i279 rfl) rfl rfl (hb hby d6_58) ?_
  have Vc281 := (f262_0.other W272 (own_ane (by omega)))
  have zz280 : n0 ≤ h272.size := by omega
  refine gStaticN Gl.cl (y := (⟨"com/example/evenkeel/evenkeel/sim/LaneLayouts", "take", "([JJ)V"⟩ : MethodName)) (argsL := [(.ref b219), (.long w2)]) (rest := []) (mc := 0) (ms := 0) X277 hx hZ hown (mvT hZ (hw _ (List.mem_of_getElem? (i := 74) rfl))) (mvT hZ (hw _ (List.mem_of_getElem? (i := 75) rfl))) (mvT hZ (hw _ (List.mem_of_getElem? (i := 3) rfl))) (mvT hZ (hw _ (List.mem_of_getElem? (i := 76) rfl))) (by decide) (backOf (W := 0) (tak l Z a0 hw [] b219 fk ((fv + w0) + w1) w2 h272 n0 zz280 (by omega) Vc281) hZ (hw _ (List.mem_of_getElem? (i := 76) rfl)) (hw _ (List.mem_of_getElem? (i := 3) rfl)) (by decide) (by decide)) rfl (by rw [hml]; rfl) (lenOf pd_5 rfl) rfl (by show 2 * 0 + _ ≤ _; exact Nat.le_of_eq rfl) (hb hby d6_59) rfl e277 (by decide) (by decide) ?_
  intro v280 T280 Lc280 hQ280 X280
  obtain ⟨rfl, Nq280, K280, f280_0⟩ := hQ280
  have z282 : h272.size ≤ T280.heap.size := K280.1
  have N280 := Fr.app N272 Nq280
  have lt283 := own_alt f280_0.lt
  refine Gl.go (fun _ hr => zXS_iinc X280.here hx rfl (hb hby d6_62) rfl (l' := #[.val (.ref x), .val (.ref fa), .val (.ref b219), .val (.ref b227), .val (.int (3 : Int32))]) rfl (zXS_goto X280.here hx rfl (pc0 := 65) (pc' := 25) rfl (hb hby d6_65) (by decide) (by decide) (zXS_iload X280.here hx rfl (hb hby d6_25) rfl (zXS_aloadN X280.here hx rfl (hb hby d6_27) rfl rfl hr)))) ?_
  have Fc284 := ((Fc266.other W272 (Or.inl (own_ane (by omega)))).keep K280 (ninS (own_ane (by omega)) nin0))
  refine gGetF (host := "") Gl.cl X280 hx hZ hown (Or.inl (hw _ (List.mem_of_getElem? (i := 29) rfl))) Via.refl (rfl : T280.heap = T280.heap) Fc284 rfl rfl (hb hby d6_28) ?_
  intro T285 X285 e285
  refine Gl.go (fun _ hr => zXS_icmpYes X285.here hx rfl (pc0 := 31) (pc' := 68) rfl (hb hby d6_31) rfl (XT.ii_ge_t (by decide)) (by decide) (by decide) (zXS_aloadN X285.here hx rfl (hb hby d6_68) rfl rfl hr)) ?_
  have Vc286 := (V272.keep K280 (ninS (own_ane (by omega)) nin0))
  obtain ⟨fs, hr, hrun, hended, hW, hsame⟩ := X285.leave (v := some (.ref b227)) (fun h => by rw [Bd.returns] at h; cases h)
  refine ⟨_, _, retOut X285 hx Bd.returns rfl (Or.inr (Or.inr (Or.inr (Or.inr ⟨rfl, rfl, rfl⟩)))) (hb hby d6_69) hr, hrun, hended, _, _, rfl, ?_, ⟨⟨_, rfl⟩, hW, hsame.mono (by decide) (by decide)⟩⟩
  show Qst0 Z x hob hok mb mk mv w0 w1 w2 fa fk fv h0 n0 _ T285.heap _
  rw [e285]
  exact ⟨b227, k227, rfl, N280, (((((((((Keep.refl h0 []).ext E219).ext E227).wr W236 (Or.inr (own_ale (by omega)))).trans K244 (allS (P := fun x_ => x_ ∈ ([] : List Addr) ∨ h0.size ≤ x_) (Or.inr (own_ale (by omega))) all0)).wr W254 (Or.inr (own_ale (by omega)))).trans K262 (allS (P := fun x_ => x_ ∈ ([] : List Addr) ∨ h0.size ≤ x_) (Or.inr (own_ale (by omega))) all0)).wr W272 (Or.inr (own_ale (by omega)))).trans K280 (allS (P := fun x_ => x_ ∈ ([] : List Addr) ∨ h0.size ≤ x_) (Or.inr (own_ale (by omega))) all0)), Vc286, (by omega)⟩
def Qlo0 (Z : State) (x : Addr) (hob : Addr) (hok : ClassId) (mb : Addr) (mk : ClassId) (mv : List Value) (w0 : Int64) (w1 : Int64) (w2 : Int64) (fa : Addr) (fk : ClassId) (fv : Int64) (h0 : Heap) (n0 : Nat) (v : Option Value) (h : Heap) (L : List Loc) : Prop := v = some (.long ((fv + w0) + w1)) ∧ Fr n0 L ∧ Keep h0 h [fa] ∧ (Arv Z h fa fk .long (1 : Int32) ([(.long (((fv + w0) + w1) + w2))]) (.long (0 : Int64)))
theorem ef_lo0 (m : MethodId) (x0 : Addr) (x1 : Addr) : entryFrame m #[(.ref x0), (.ref x1)] 8 = mkF m 0 #[.val (.ref x0), .val (.ref x1), .unset, .unset, .unset, .unset, .unset, .unset] [] := by first | (simp [entryFrame, mkF, argsToLocals, Value.category]; done) | rfl
theorem d12_0 : decode prog_130_method_7_code 0 = .ok (.aload_n 0, 1) := by decide +kernel
theorem d12_1 : decode prog_130_method_7_code 1 = .ok (.invokevirtual 58, 3) := by decide +kernel
theorem d12_4 : decode prog_130_method_7_code 4 = .ok (.ifCond .ne 13, 3) := by decide +kernel
theorem d12_17 : decode prog_130_method_7_code 17 = .ok (.aload_n 1, 1) := by decide +kernel
theorem d12_18 : decode prog_130_method_7_code 18 = .ok (.arraylength, 1) := by decide +kernel
theorem d12_19 : decode prog_130_method_7_code 19 = .ok (.bipush 8, 2) := by decide +kernel
theorem d12_21 : decode prog_130_method_7_code 21 = .ok (.if_icmp .gt 7, 3) := by decide +kernel
theorem d12_24 : decode prog_130_method_7_code 24 = .ok (.iconst 1, 1) := by decide +kernel
theorem d12_25 : decode prog_130_method_7_code 25 = .ok (.goto 4, 3) := by decide +kernel
theorem d12_29 : decode prog_130_method_7_code 29 = .ok (.istore_n 2, 1) := by decide +kernel
theorem d12_30 : decode prog_130_method_7_code 30 = .ok (.aload_n 0, 1) := by decide +kernel
theorem d12_31 : decode prog_130_method_7_code 31 = .ok (.getfield 34, 3) := by decide +kernel
theorem d12_34 : decode prog_130_method_7_code 34 = .ok (.iconst 1, 1) := by decide +kernel
theorem d12_35 : decode prog_130_method_7_code 35 = .ok (.isub, 1) := by decide +kernel
theorem d12_36 : decode prog_130_method_7_code 36 = .ok (.istore_n 3, 1) := by decide +kernel
theorem d12_37 : decode prog_130_method_7_code 37 = .ok (.aload_n 0, 1) := by decide +kernel
theorem d12_38 : decode prog_130_method_7_code 38 = .ok (.getfield 28, 3) := by decide +kernel
theorem d12_41 : decode prog_130_method_7_code 41 = .ok (.istore 4, 2) := by decide +kernel
theorem d12_43 : decode prog_130_method_7_code 43 = .ok (.iconst 1, 1) := by decide +kernel
theorem d12_44 : decode prog_130_method_7_code 44 = .ok (.istore 5, 2) := by decide +kernel
theorem d12_46 : decode prog_130_method_7_code 46 = .ok (.iload 4, 2) := by decide +kernel
theorem d12_48 : decode prog_130_method_7_code 48 = .ok (.iload_n 3, 1) := by decide +kernel
theorem d12_49 : decode prog_130_method_7_code 49 = .ok (.if_icmp .ge 89, 3) := by decide +kernel
theorem d12_52 : decode prog_130_method_7_code 52 = .ok (.iload_n 2, 1) := by decide +kernel
theorem d12_53 : decode prog_130_method_7_code 53 = .ok (.ifCond .eq 12, 3) := by decide +kernel
theorem d12_56 : decode prog_130_method_7_code 56 = .ok (.iload 4, 2) := by decide +kernel
theorem d12_58 : decode prog_130_method_7_code 58 = .ok (.iload_n 3, 1) := by decide +kernel
theorem d12_59 : decode prog_130_method_7_code 59 = .ok (.invokestatic 73, 3) := by decide +kernel
theorem pd_6 : parseMethodDescriptor "(II)I" = some ⟨[.int, .int], some .int⟩ := by decide +kernel
theorem d12_62 : decode prog_130_method_7_code 62 = .ok (.goto 4, 3) := by decide +kernel
theorem d12_66 : decode prog_130_method_7_code 66 = .ok (.istore 6, 2) := by decide +kernel
theorem d12_68 : decode prog_130_method_7_code 68 = .ok (.iload 6, 2) := by decide +kernel
theorem d12_70 : decode prog_130_method_7_code 70 = .ok (.ifCond .ge 28, 3) := by decide +kernel
theorem d12_73 : decode prog_130_method_7_code 73 = .ok (.aload_n 1, 1) := by decide +kernel
theorem d12_74 : decode prog_130_method_7_code 74 = .ok (.aload_n 0, 1) := by decide +kernel
theorem d12_75 : decode prog_130_method_7_code 75 = .ok (.getfield 7, 3) := by decide +kernel
theorem d12_78 : decode prog_130_method_7_code 78 = .ok (.iload 4, 2) := by decide +kernel
theorem d12_80 : decode prog_130_method_7_code 80 = .ok (.aload_n 0, 1) := by decide +kernel
theorem d12_81 : decode prog_130_method_7_code 81 = .ok (.getfield 31, 3) := by decide +kernel
theorem d12_84 : decode prog_130_method_7_code 84 = .ok (.isub, 1) := by decide +kernel
theorem d12_85 : decode prog_130_method_7_code 85 = .ok (.laload, 1) := by decide +kernel
theorem d12_86 : decode prog_130_method_7_code 86 = .ok (.invokestatic 62, 3) := by decide +kernel
theorem d12_89 : decode prog_130_method_7_code 89 = .ok (.iconst 0, 1) := by decide +kernel
theorem d12_90 : decode prog_130_method_7_code 90 = .ok (.istore 5, 2) := by decide +kernel
theorem d12_92 : decode prog_130_method_7_code 92 = .ok (.iinc 4 1, 3) := by decide +kernel
theorem d12_95 : decode prog_130_method_7_code 95 = .ok (.goto 40, 3) := by decide +kernel
theorem d12_135 : decode prog_130_method_7_code 135 = .ok (.goto (-89), 3) := by decide +kernel
theorem d12_138 : decode prog_130_method_7_code 138 = .ok (.aload_n 1, 1) := by decide +kernel
theorem d12_139 : decode prog_130_method_7_code 139 = .ok (.iconst 0, 1) := by decide +kernel
theorem d12_140 : decode prog_130_method_7_code 140 = .ok (.laload, 1) := by decide +kernel
theorem d12_141 : decode prog_130_method_7_code 141 = .ok (.lstore 6, 2) := by decide +kernel
theorem d12_143 : decode prog_130_method_7_code 143 = .ok (.aload_n 1, 1) := by decide +kernel
theorem d12_144 : decode prog_130_method_7_code 144 = .ok (.aload_n 0, 1) := by decide +kernel
theorem d12_145 : decode prog_130_method_7_code 145 = .ok (.getfield 7, 3) := by decide +kernel
theorem d12_148 : decode prog_130_method_7_code 148 = .ok (.iload_n 3, 1) := by decide +kernel
theorem d12_149 : decode prog_130_method_7_code 149 = .ok (.aload_n 0, 1) := by decide +kernel
theorem d12_150 : decode prog_130_method_7_code 150 = .ok (.getfield 31, 3) := by decide +kernel
theorem d12_153 : decode prog_130_method_7_code 153 = .ok (.isub, 1) := by decide +kernel
theorem d12_154 : decode prog_130_method_7_code 154 = .ok (.laload, 1) := by decide +kernel
theorem d12_155 : decode prog_130_method_7_code 155 = .ok (.invokestatic 62, 3) := by decide +kernel
theorem d12_158 : decode prog_130_method_7_code 158 = .ok (.aload_n 1, 1) := by decide +kernel
theorem d12_159 : decode prog_130_method_7_code 159 = .ok (.invokestatic 54, 3) := by decide +kernel
theorem d12_162 : decode prog_130_method_7_code 162 = .ok (.lload 6, 2) := by decide +kernel
theorem d12_164 : decode prog_130_method_7_code 164 = .ok (.lreturn, 1) := by decide +kernel
set_option maxRecDepth 65536 in
set_option maxHeartbeats 40000000 in
theorem lo0 (l : Launch) (Z : State) (a0 : Array Value) (hw : ∀ d ∈ tables_1, d.before a0 Z = true) (ws : List Jvm.Cond) (x : Addr) (hob : Addr) (hok : ClassId) (mb : Addr) (mk : ClassId) (mv : List Value) (w0 : Int64) (w1 : Int64) (w2 : Int64) (fa : Addr) (fk : ClassId) (fv : Int64) (h0 : Heap) (n0 : Nat) (Z0 : n0 ≤ h0.size) (q0 : Old Z n0 h0) (q1 : Sta Z Z.heap "com/example/evenkeel/evenkeel/sim/LaneLayouts" "TALLEST" "I" (.int (25 : Int32))) (q2 : Exa Z h0 x "com/example/evenkeel/evenkeel/sim/LaneLayouts") (q3 : Fld Z h0 x "com/example/evenkeel/evenkeel/sim/LaneLayouts" "holds" "[J" (.ref hob)) (q4 : Fld Z h0 x "com/example/evenkeel/evenkeel/sim/LaneLayouts" "base" "I" (.int (0 : Int32))) (q5 : Fld Z h0 x "com/example/evenkeel/evenkeel/sim/LaneLayouts" "first" "I" (.int (0 : Int32))) (q6 : Fld Z h0 x "com/example/evenkeel/evenkeel/sim/LaneLayouts" "end" "I" (.int (3 : Int32))) (q7 : Fld Z h0 x "com/example/evenkeel/evenkeel/sim/LaneLayouts" "memories" "[[Lcom/example/evenkeel/evenkeel/sim/LaneLayouts$Memory;" (.ref mb)) (q8 : Arv Z h0 hob hok .long (64 : Int32) ([(.long w0), (.long w1), (.long w2)]) (.long (0 : Int64))) (q9 : Arv Z h0 mb mk (.array (.object "com/example/evenkeel/evenkeel/sim/LaneLayouts$Memory")) (1 : Int32) mv .null) (q10 : Arv Z h0 fa fk .long (1 : Int32) ([(.long fv)]) (.long (0 : Int64))) (q11 : @LE.le Nat instLENat n0 fa) (q12 : ¬ @Eq Nat fa hob) (q13 : ¬ @Eq Nat fa x) (q14 : ¬ @Eq Nat fa mb) :
    MetFree l (⟨"com/example/evenkeel/evenkeel/sim/LaneLayouts", "layOut", "([J)J"⟩ : MethodName) (head1 (Jvm.Cond.code (⟨"com/example/evenkeel/evenkeel/sim/LaneLayouts", "layOut", "([J)J"⟩ : MethodName) prog_130_method_7_code 8 (some .long) :: ws) ({ frames := 4, cells := 0, slots := 0, locals := 90 } : Room)) (fun a_ U_ => a_ = #[(.ref x), (.ref fa)] ∧ Z.Warmed39 U_.vm ∧ U_.heap = h0) (fun _ _ _ _ _ => True) (fun _ U_ o_ V_ => ∃ v_ L_, o_ = .returned v_ ∧ Qlo0 Z x hob hok mb mk mv w0 w1 w2 fa fk fv h0 n0 v_ V_.heap L_ ∧ FrameEnd U_ o_ V_ L_ ({ frames := 4, cells := 0, slots := 0, locals := 90 } : Room).cells ({ frames := 4, cells := 0, slots := 0, locals := 90 } : Room).slots) := by
  refine MetFree.of_bodySF (plainFor_of_name pn_2) hisR ?_
  intro p e s m args below meth c s₁ Bd hml0 hP hK
  obtain ⟨rfl, hZ, hh⟩ := hP
  have hx := Bd.exec
  have hby := Bd.bytes
  have hml : c.maxLocals = 8 := hml0
  have hown : s.vm.findClass "com/example/evenkeel/evenkeel/sim/LaneLayouts" = some m.cls := findClass_of_methodNamed Bd.named
  have hnm := (name_of_methodNamed Bd.named Bd.method).1
  have X0 : Stand p l e ({ frames := 4, cells := 0, slots := 0, locals := 90 } : Room) s m #[(.ref x), (.ref fa)] below meth c s₁ [] 0 0 := Stand.of_body Bd
  have e0 : s₁.heap = h0 := by rw [← hh, Bd.state]; rfl
  have N0 := Fr.nil n0
  have zo := q0.1
  have lt287 := own_alt q2.lt
  have lt288 := own_alt q3.lt
  have lt289 := own_alt q4.lt
  have lt290 := own_alt q5.lt
  have lt291 := own_alt q6.lt
  have lt292 := own_alt q7.lt
  have lt293 := own_alt q8.lt
  have lt294 := own_alt q9.lt
  have lt295 := own_alt q10.lt
  refine Gl.go (A := s₁.setTop (entryFrame m #[(.ref x), (.ref fa)] 8)) (P := fun o_ U_ => ∃ v_ L_, o_ = .returned v_ ∧ Qlo0 Z x hob hok mb mk mv w0 w1 w2 fa fk fv h0 n0 v_ U_.heap L_ ∧ FrameEnd s o_ U_ L_ ({ frames := 4, cells := 0, slots := 0, locals := 90 } : Room).cells ({ frames := 4, cells := 0, slots := 0, locals := 90 } : Room).slots) (fun t_ k_ => castTop (ef_lo0 m x fa) k_) ?_
  show Gl p.tables e below _ (s₁.setTop (mkF m 0 #[.val (.ref x), .val (.ref fa), .unset, .unset, .unset, .unset, .unset, .unset] []))
  refine Gl.go (fun _ hr => zXS_aloadN X0.here hx rfl (hb hby d12_0) rfl rfl hr) ?_
  have zz296 : n0 ≤ h0.size := by omega
  refine gVirtualN Gl.cl (y := (⟨"com/example/evenkeel/evenkeel/sim/LaneLayouts", "size", "()I"⟩ : MethodName)) (z := (⟨"com/example/evenkeel/evenkeel/sim/LaneLayouts", "size", "()I"⟩ : MethodName)) (b := x) (argsL := []) (rest := []) (mc := 0) (ms := 0) X0 hx hZ hown (mvT hZ (hw _ (List.mem_of_getElem? (i := 73) rfl))) (mvT hZ (hw _ (List.mem_of_getElem? (i := 41) rfl))) (notFace_of_selects (args := #[]) (mvT hZ (hw _ (List.mem_of_getElem? (i := 43) rfl)))) (mvT hZ (hw _ (List.mem_of_getElem? (i := 43) rfl))) (mvT hZ (hw _ (List.mem_of_getElem? (i := 42) rfl))) (by decide) q2 (backOf (W := 0) (sz0 l Z a0 hw [] x h0 n0 zz296 q6 q5) hZ (hw _ (List.mem_of_getElem? (i := 44) rfl)) (hw _ (List.mem_of_getElem? (i := 3) rfl)) (by decide) (by decide)) rfl (by rw [hml]; rfl) (lenOf pd_4 rfl) rfl (by show 2 * 0 + _ ≤ _; exact Nat.le_of_eq rfl) (hb hby d12_1) rfl e0 (by decide) (by decide) ?_
  intro v296 T296 Lc296 hQ296 X296
  obtain ⟨rfl, Nq296, e296⟩ := hQ296
  have N296 := Fr.app N0 Nq296
  refine Gl.go (fun _ hr => zXS_ifYes X296.here hx rfl (pc0 := 4) (pc' := 17) rfl (hb hby d12_4) rfl (XT.i0_ne_t (by decide)) (by decide) (by decide) (zXS_aloadN X296.here hx rfl (hb hby d12_17) rfl rfl hr)) ?_
  obtain ⟨c297, a297, q297, s297, m297, H297, U297⟩ := id q10
  refine gLen Gl.cl X296 hx hZ e296 a297 s297 m297 rfl rfl (hb hby d12_18) ?_
  refine Gl.go (fun _ hr => zXS_bipush X296.here hx rfl (hb hby d12_19) (zXS_icmpNo X296.here hx rfl (hb hby d12_21) rfl (XT.ii_gt_f (by decide)) (zXS_iconst X296.here hx rfl (hb hby d12_24) (zXS_goto X296.here hx rfl (pc0 := 25) (pc' := 29) rfl (hb hby d12_25) (by decide) (by decide) (zXS_istoreN X296.here hx rfl (hb hby d12_29) rfl (l' := #[.val (.ref x), .val (.ref fa), .val (.int (1 : Int32)), .unset, .unset, .unset, .unset, .unset]) rfl (zXS_aloadN X296.here hx rfl (hb hby d12_30) rfl rfl hr)))))) ?_
  refine gGetF (host := "") Gl.cl X296 hx hZ hown (Or.inl (hw _ (List.mem_of_getElem? (i := 29) rfl))) Via.refl e296 q6 rfl rfl (hb hby d12_31) ?_
  intro T298 X298 e298
  refine Gl.go (fun _ hr => zXS_iconst X298.here hx rfl (hb hby d12_34) (zXS_isub X298.here hx rfl (hb hby d12_35) rfl (zXS_istoreN X298.here hx rfl (hb hby d12_36) rfl (l' := #[.val (.ref x), .val (.ref fa), .val (.int (1 : Int32)), .val (.int (2 : Int32)), .unset, .unset, .unset, .unset]) rfl (zXS_aloadN X298.here hx rfl (hb hby d12_37) rfl rfl hr)))) ?_
  refine gGetF (host := "") Gl.cl X298 hx hZ hown (Or.inl (hw _ (List.mem_of_getElem? (i := 38) rfl))) Via.refl e298 q5 rfl rfl (hb hby d12_38) ?_
  intro T299 X299 e299
  refine Gl.go (fun _ hr => zXS_istore X299.here hx rfl (hb hby d12_41) rfl (l' := #[.val (.ref x), .val (.ref fa), .val (.int (1 : Int32)), .val (.int (2 : Int32)), .val (.int (0 : Int32)), .unset, .unset, .unset]) rfl (zXS_iconst X299.here hx rfl (hb hby d12_43) (zXS_istore X299.here hx rfl (hb hby d12_44) rfl (l' := #[.val (.ref x), .val (.ref fa), .val (.int (1 : Int32)), .val (.int (2 : Int32)), .val (.int (0 : Int32)), .val (.int (1 : Int32)), .unset, .unset]) rfl (zXS_iload X299.here hx rfl (hb hby d12_46) rfl (zXS_iloadN X299.here hx rfl (hb hby d12_48) rfl (zXS_icmpNo X299.here hx rfl (hb hby d12_49) rfl (XT.ii_ge_f (by decide)) (zXS_iloadN X299.here hx rfl (hb hby d12_52) rfl (zXS_ifNo X299.here hx rfl (hb hby d12_53) rfl (XT.i0_eq_f (by decide)) (zXS_iload X299.here hx rfl (hb hby d12_56) rfl (zXS_iloadN X299.here hx rfl (hb hby d12_58) rfl hr)))))))))) ?_
  have zz300 : n0 ≤ h0.size := by omega
  refine gStaticN Gl.cl (y := (⟨"com/example/evenkeel/evenkeel/sim/LaneLayouts", "tallestFrom", "(II)I"⟩ : MethodName)) (argsL := [(.int (0 : Int32)), (.int (2 : Int32))]) (rest := []) (mc := 0) (ms := 0) X299 hx hZ hown (mvT hZ (hw _ (List.mem_of_getElem? (i := 82) rfl))) (mvT hZ (hw _ (List.mem_of_getElem? (i := 83) rfl))) (mvT hZ (hw _ (List.mem_of_getElem? (i := 3) rfl))) (mvT hZ (hw _ (List.mem_of_getElem? (i := 84) rfl))) (by decide) (backOf (W := 0) (tal0 l Z a0 hw []  h0 n0 zz300 q0 q1) hZ (hw _ (List.mem_of_getElem? (i := 84) rfl)) (hw _ (List.mem_of_getElem? (i := 3) rfl)) (by decide) (by decide)) rfl (by rw [hml]; rfl) (lenOf pd_6 rfl) rfl (by show 2 * 0 + _ ≤ _; exact Nat.le_of_eq rfl) (hb hby d12_59) rfl e299 (by decide) (by decide) ?_
  intro v300 T300 Lc300 hQ300 X300
  obtain ⟨rfl, Nq300, e300⟩ := hQ300
  have N300 := Fr.app N296 Nq300
  refine Gl.go (fun _ hr => zXS_goto X300.here hx rfl (pc0 := 62) (pc' := 66) rfl (hb hby d12_62) (by decide) (by decide) (zXS_istore X300.here hx rfl (hb hby d12_66) rfl (l' := #[.val (.ref x), .val (.ref fa), .val (.int (1 : Int32)), .val (.int (2 : Int32)), .val (.int (0 : Int32)), .val (.int (1 : Int32)), .val (.int (-1 : Int32)), .unset]) rfl (zXS_iload X300.here hx rfl (hb hby d12_68) rfl (zXS_ifNo X300.here hx rfl (hb hby d12_70) rfl (XT.i0_ge_f (by decide)) (zXS_aloadN X300.here hx rfl (hb hby d12_73) rfl rfl (zXS_aloadN X300.here hx rfl (hb hby d12_74) rfl rfl hr)))))) ?_
  refine gGetF (host := "") Gl.cl X300 hx hZ hown (Or.inl (hw _ (List.mem_of_getElem? (i := 11) rfl))) Via.refl e300 q3 rfl rfl (hb hby d12_75) ?_
  intro T301 X301 e301
  refine Gl.go (fun _ hr => zXS_iload X301.here hx rfl (hb hby d12_78) rfl (zXS_aloadN X301.here hx rfl (hb hby d12_80) rfl rfl hr)) ?_
  refine gGetF (host := "") Gl.cl X301 hx hZ hown (Or.inl (hw _ (List.mem_of_getElem? (i := 31) rfl))) Via.refl e301 q4 rfl rfl (hb hby d12_81) ?_
  intro T302 X302 e302
  refine Gl.go (fun _ hr => zXS_isub X302.here hx rfl (hb hby d12_84) rfl hr) ?_
  obtain ⟨c303, a303, q303, s303, m303, H303, U303⟩ := id q8
  have i303 := inb_of s303 (j := (0 : Int32)) ⟨(by decide), (by decide)⟩
  refine g_laload Gl.cl X302 hx hZ e302 a303 i303 (v := (.long w0)) (H303.at i303 rfl) rfl rfl (hb hby d12_85) ?_
  have zz304 : n0 ≤ h0.size := by omega
  refine gStaticN Gl.cl (y := (⟨"com/example/evenkeel/evenkeel/sim/LaneLayouts", "take", "([JJ)V"⟩ : MethodName)) (argsL := [(.ref fa), (.long w0)]) (rest := []) (mc := 0) (ms := 0) X302 hx hZ hown (mvT hZ (hw _ (List.mem_of_getElem? (i := 74) rfl))) (mvT hZ (hw _ (List.mem_of_getElem? (i := 75) rfl))) (mvT hZ (hw _ (List.mem_of_getElem? (i := 3) rfl))) (mvT hZ (hw _ (List.mem_of_getElem? (i := 76) rfl))) (by decide) (backOf (W := 0) (tak l Z a0 hw [] fa fk fv w0 h0 n0 zz304 (by omega) q10) hZ (hw _ (List.mem_of_getElem? (i := 76) rfl)) (hw _ (List.mem_of_getElem? (i := 3) rfl)) (by decide) (by decide)) rfl (by rw [hml]; rfl) (lenOf pd_5 rfl) rfl (by show 2 * 0 + _ ≤ _; exact Nat.le_of_eq rfl) (hb hby d12_86) rfl e302 (by decide) (by decide) ?_
  intro v304 T304 Lc304 hQ304 X304
  obtain ⟨rfl, Nq304, K304, f304_0⟩ := hQ304
  have z305 : h0.size ≤ T304.heap.size := K304.1
  have N304 := Fr.app N300 Nq304
  have lt306 := own_alt f304_0.lt
  refine Gl.go (fun _ hr => zXS_iconst X304.here hx rfl (hb hby d12_89) (zXS_istore X304.here hx rfl (hb hby d12_90) rfl (l' := #[.val (.ref x), .val (.ref fa), .val (.int (1 : Int32)), .val (.int (2 : Int32)), .val (.int (0 : Int32)), .val (.int (0 : Int32)), .val (.int (-1 : Int32)), .unset]) rfl (zXS_iinc X304.here hx rfl (hb hby d12_92) rfl (l' := #[.val (.ref x), .val (.ref fa), .val (.int (1 : Int32)), .val (.int (2 : Int32)), .val (.int (1 : Int32)), .val (.int (0 : Int32)), .val (.int (-1 : Int32)), .unset]) rfl (zXS_goto X304.here hx rfl (pc0 := 95) (pc' := 135) rfl (hb hby d12_95) (by decide) (by decide) (zXS_goto X304.here hx rfl (pc0 := 135) (pc' := 46) rfl (hb hby d12_135) (by decide) (by decide) (zXS_iload X304.here hx rfl (hb hby d12_46) rfl (zXS_iloadN X304.here hx rfl (hb hby d12_48) rfl (zXS_icmpNo X304.here hx rfl (hb hby d12_49) rfl (XT.ii_ge_f (by decide)) (zXS_iloadN X304.here hx rfl (hb hby d12_52) rfl (zXS_ifNo X304.here hx rfl (hb hby d12_53) rfl (XT.i0_eq_f (by decide)) hr)))))))))) ?_
  refine Gl.go (fun _ hr => zXS_iload X304.here hx rfl (hb hby d12_56) rfl (zXS_iloadN X304.here hx rfl (hb hby d12_58) rfl hr)) ?_
  have Oc308 := (q0.keep K304 (allS (own_ale (by omega)) all0))
  have zz307 : n0 ≤ T304.heap.size := by omega
  refine gStaticN Gl.cl (y := (⟨"com/example/evenkeel/evenkeel/sim/LaneLayouts", "tallestFrom", "(II)I"⟩ : MethodName)) (argsL := [(.int (1 : Int32)), (.int (2 : Int32))]) (rest := []) (mc := 0) (ms := 0) X304 hx hZ hown (mvT hZ (hw _ (List.mem_of_getElem? (i := 82) rfl))) (mvT hZ (hw _ (List.mem_of_getElem? (i := 83) rfl))) (mvT hZ (hw _ (List.mem_of_getElem? (i := 3) rfl))) (mvT hZ (hw _ (List.mem_of_getElem? (i := 84) rfl))) (by decide) (backOf (W := 0) (tal1 l Z a0 hw []  T304.heap n0 zz307 Oc308 q1) hZ (hw _ (List.mem_of_getElem? (i := 84) rfl)) (hw _ (List.mem_of_getElem? (i := 3) rfl)) (by decide) (by decide)) rfl (by rw [hml]; rfl) (lenOf pd_6 rfl) rfl (by show 2 * 0 + _ ≤ _; exact Nat.le_of_eq rfl) (hb hby d12_59) rfl (rfl : T304.heap = T304.heap) (by decide) (by decide) ?_
  intro v307 T307 Lc307 hQ307 X307
  obtain ⟨rfl, Nq307, e307⟩ := hQ307
  have N307 := Fr.app N304 Nq307
  refine Gl.go (fun _ hr => zXS_goto X307.here hx rfl (pc0 := 62) (pc' := 66) rfl (hb hby d12_62) (by decide) (by decide) (zXS_istore X307.here hx rfl (hb hby d12_66) rfl (l' := #[.val (.ref x), .val (.ref fa), .val (.int (1 : Int32)), .val (.int (2 : Int32)), .val (.int (1 : Int32)), .val (.int (0 : Int32)), .val (.int (-1 : Int32)), .unset]) rfl (zXS_iload X307.here hx rfl (hb hby d12_68) rfl (zXS_ifNo X307.here hx rfl (hb hby d12_70) rfl (XT.i0_ge_f (by decide)) (zXS_aloadN X307.here hx rfl (hb hby d12_73) rfl rfl (zXS_aloadN X307.here hx rfl (hb hby d12_74) rfl rfl hr)))))) ?_
  show Gl p.tables e below _ (T307.setTop (mkF m 75 #[.val (.ref x), .val (.ref fa), .val (.int (1 : Int32)), .val (.int (2 : Int32)), .val (.int (1 : Int32)), .val (.int (0 : Int32)), .val (.int (-1 : Int32)), .unset] [(.ref x), (.ref fa)]))
  have Fc309 := (q3.keep K304 (ninS (own_ane (by omega)) nin0))
  refine gGetF (host := "") Gl.cl X307 hx hZ hown (Or.inl (hw _ (List.mem_of_getElem? (i := 11) rfl))) Via.refl e307 Fc309 rfl rfl (hb hby d12_75) ?_
  intro T310 X310 e310
  refine Gl.go (fun _ hr => zXS_iload X310.here hx rfl (hb hby d12_78) rfl (zXS_aloadN X310.here hx rfl (hb hby d12_80) rfl rfl hr)) ?_
  have Fc311 := (q4.keep K304 (ninS (own_ane (by omega)) nin0))
  refine gGetF (host := "") Gl.cl X310 hx hZ hown (Or.inl (hw _ (List.mem_of_getElem? (i := 31) rfl))) Via.refl e310 Fc311 rfl rfl (hb hby d12_81) ?_
  intro T312 X312 e312
  refine Gl.go (fun _ hr => zXS_isub X312.here hx rfl (hb hby d12_84) rfl hr) ?_
  have Vc313 := (q8.keep K304 (ninS (own_ane (by omega)) nin0))
  obtain ⟨c314, a314, q314, s314, m314, H314, U314⟩ := id Vc313
  have i314 := inb_of s314 (j := (1 : Int32)) ⟨(by decide), (by decide)⟩
  refine g_laload Gl.cl X312 hx hZ e312 a314 i314 (v := (.long w1)) (H314.at i314 rfl) rfl rfl (hb hby d12_85) ?_
  have zz315 : n0 ≤ T304.heap.size := by omega
  refine gStaticN Gl.cl (y := (⟨"com/example/evenkeel/evenkeel/sim/LaneLayouts", "take", "([JJ)V"⟩ : MethodName)) (argsL := [(.ref fa), (.long w1)]) (rest := []) (mc := 0) (ms := 0) X312 hx hZ hown (mvT hZ (hw _ (List.mem_of_getElem? (i := 74) rfl))) (mvT hZ (hw _ (List.mem_of_getElem? (i := 75) rfl))) (mvT hZ (hw _ (List.mem_of_getElem? (i := 3) rfl))) (mvT hZ (hw _ (List.mem_of_getElem? (i := 76) rfl))) (by decide) (backOf (W := 0) (tak l Z a0 hw [] fa fk (fv + w0) w1 T304.heap n0 zz315 (by omega) f304_0) hZ (hw _ (List.mem_of_getElem? (i := 76) rfl)) (hw _ (List.mem_of_getElem? (i := 3) rfl)) (by decide) (by decide)) rfl (by rw [hml]; rfl) (lenOf pd_5 rfl) rfl (by show 2 * 0 + _ ≤ _; exact Nat.le_of_eq rfl) (hb hby d12_86) rfl e312 (by decide) (by decide) ?_
  intro v315 T315 Lc315 hQ315 X315
  obtain ⟨rfl, Nq315, K315, f315_0⟩ := hQ315
  have z316 : T304.heap.size ≤ T315.heap.size := K315.1
  have N315 := Fr.app N307 Nq315
  have lt317 := own_alt f315_0.lt
  refine Gl.go (fun _ hr => zXS_iconst X315.here hx rfl (hb hby d12_89) (zXS_istore X315.here hx rfl (hb hby d12_90) rfl (l' := #[.val (.ref x), .val (.ref fa), .val (.int (1 : Int32)), .val (.int (2 : Int32)), .val (.int (1 : Int32)), .val (.int (0 : Int32)), .val (.int (-1 : Int32)), .unset]) rfl (zXS_iinc X315.here hx rfl (hb hby d12_92) rfl (l' := #[.val (.ref x), .val (.ref fa), .val (.int (1 : Int32)), .val (.int (2 : Int32)), .val (.int (2 : Int32)), .val (.int (0 : Int32)), .val (.int (-1 : Int32)), .unset]) rfl (zXS_goto X315.here hx rfl (pc0 := 95) (pc' := 135) rfl (hb hby d12_95) (by decide) (by decide) (zXS_goto X315.here hx rfl (pc0 := 135) (pc' := 46) rfl (hb hby d12_135) (by decide) (by decide) (zXS_iload X315.here hx rfl (hb hby d12_46) rfl (zXS_iloadN X315.here hx rfl (hb hby d12_48) rfl (zXS_icmpYes X315.here hx rfl (pc0 := 49) (pc' := 138) rfl (hb hby d12_49) rfl (XT.ii_ge_t (by decide)) (by decide) (by decide) (zXS_aloadN X315.here hx rfl (hb hby d12_138) rfl rfl (zXS_iconst X315.here hx rfl (hb hby d12_139) hr)))))))))) ?_
  obtain ⟨c318, a318, q318, s318, m318, H318, U318⟩ := id f315_0
  have i318 := inb_of s318 (j := (0 : Int32)) ⟨(by decide), (by decide)⟩
  refine g_laload Gl.cl X315 hx hZ (rfl : T315.heap = T315.heap) a318 i318 (v := (.long ((fv + w0) + w1))) (H318.at i318 rfl) rfl rfl (hb hby d12_140) ?_
  refine Gl.go (fun _ hr => zXT_lstore X315.here hx rfl (hb hby d12_141) rfl (l' := #[.val (.ref x), .val (.ref fa), .val (.int (1 : Int32)), .val (.int (2 : Int32)), .val (.int (2 : Int32)), .val (.int (0 : Int32)), .val (.long ((fv + w0) + w1)), .second]) rfl (zXS_aloadN X315.here hx rfl (hb hby d12_143) rfl rfl (zXS_aloadN X315.here hx rfl (hb hby d12_144) rfl rfl hr))) ?_
  have Fc319 := (Fc309.keep K315 (ninS (own_ane (by omega)) nin0))
  refine gGetF (host := "") Gl.cl X315 hx hZ hown (Or.inl (hw _ (List.mem_of_getElem? (i := 11) rfl))) Via.refl (rfl : T315.heap = T315.heap) Fc319 rfl rfl (hb hby d12_145) ?_
  intro T320 X320 e320
  refine Gl.go (fun _ hr => zXS_iloadN X320.here hx rfl (hb hby d12_148) rfl (zXS_aloadN X320.here hx rfl (hb hby d12_149) rfl rfl hr)) ?_
  have Fc321 := (Fc311.keep K315 (ninS (own_ane (by omega)) nin0))
  refine gGetF (host := "") Gl.cl X320 hx hZ hown (Or.inl (hw _ (List.mem_of_getElem? (i := 31) rfl))) Via.refl e320 Fc321 rfl rfl (hb hby d12_150) ?_
  intro T322 X322 e322
  refine Gl.go (fun _ hr => zXS_isub X322.here hx rfl (hb hby d12_153) rfl hr) ?_
  have Vc323 := (Vc313.keep K315 (ninS (own_ane (by omega)) nin0))
  obtain ⟨c324, a324, q324, s324, m324, H324, U324⟩ := id Vc323
  have i324 := inb_of s324 (j := (2 : Int32)) ⟨(by decide), (by decide)⟩
  refine g_laload Gl.cl X322 hx hZ e322 a324 i324 (v := (.long w2)) (H324.at i324 rfl) rfl rfl (hb hby d12_154) ?_
  have zz325 : n0 ≤ T315.heap.size := by omega
  refine gStaticN Gl.cl (y := (⟨"com/example/evenkeel/evenkeel/sim/LaneLayouts", "take", "([JJ)V"⟩ : MethodName)) (argsL := [(.ref fa), (.long w2)]) (rest := []) (mc := 0) (ms := 0) X322 hx hZ hown (mvT hZ (hw _ (List.mem_of_getElem? (i := 74) rfl))) (mvT hZ (hw _ (List.mem_of_getElem? (i := 75) rfl))) (mvT hZ (hw _ (List.mem_of_getElem? (i := 3) rfl))) (mvT hZ (hw _ (List.mem_of_getElem? (i := 76) rfl))) (by decide) (backOf (W := 0) (tak l Z a0 hw [] fa fk ((fv + w0) + w1) w2 T315.heap n0 zz325 (by omega) f315_0) hZ (hw _ (List.mem_of_getElem? (i := 76) rfl)) (hw _ (List.mem_of_getElem? (i := 3) rfl)) (by decide) (by decide)) rfl (by rw [hml]; rfl) (lenOf pd_5 rfl) rfl (by show 2 * 0 + _ ≤ _; exact Nat.le_of_eq rfl) (hb hby d12_155) rfl e322 (by decide) (by decide) ?_
  intro v325 T325 Lc325 hQ325 X325
  obtain ⟨rfl, Nq325, K325, f325_0⟩ := hQ325
  have z326 : T315.heap.size ≤ T325.heap.size := K325.1
  have N325 := Fr.app N315 Nq325
  have lt327 := own_alt f325_0.lt
  refine Gl.go (fun _ hr => zXS_aloadN X325.here hx rfl (hb hby d12_158) rfl rfl hr) ?_
  have zz328 : n0 ≤ T325.heap.size := by omega
  refine gStaticN Gl.cl (y := (⟨"java/util/Arrays", "sort", "([J)V"⟩ : MethodName)) (argsL := [(.ref fa)]) (rest := []) (mc := 0) (ms := 0) X325 hx hZ hown (mvT hZ (hw _ (List.mem_of_getElem? (i := 59) rfl))) (mvT hZ (hw _ (List.mem_of_getElem? (i := 60) rfl))) (mvT hZ (hw _ (List.mem_of_getElem? (i := 61) rfl))) (mvT hZ (hw _ (List.mem_of_getElem? (i := 62) rfl))) (by decide) (backOf (W := 0) (srt l Z a0 hw [] fa fk (((fv + w0) + w1) + w2) T325.heap n0 zz328 f325_0) hZ (hw _ (List.mem_of_getElem? (i := 62) rfl)) (hw _ (List.mem_of_getElem? (i := 61) rfl)) (by decide) (by decide)) rfl (by rw [hml]; rfl) (lenOf pd_3 rfl) rfl (by show 2 * 0 + _ ≤ _; exact Nat.le_of_eq rfl) (hb hby d12_159) rfl (rfl : T325.heap = T325.heap) (by decide) (by decide) ?_
  intro v328 T328 Lc328 hQ328 X328
  obtain ⟨rfl, Nq328, e328⟩ := hQ328
  have N328 := Fr.app N325 Nq328
  refine Gl.go (fun _ hr => zXT_lload X328.here hx rfl (hb hby d12_162) rfl hr) ?_
  obtain ⟨fs, hr, hrun, hended, hW, hsame⟩ := X328.leave (v := some (.long ((fv + w0) + w1))) (fun h => by rw [Bd.returns] at h; cases h)
  refine ⟨_, _, retOut X328 hx Bd.returns rfl (Or.inr (Or.inl ⟨rfl, rfl, _, rfl⟩)) (hb hby d12_164) hr, hrun, hended, _, _, rfl, ?_, ⟨⟨_, rfl⟩, hW, hsame.mono (by decide) (by decide)⟩⟩
  show Qlo0 Z x hob hok mb mk mv w0 w1 w2 fa fk fv h0 n0 _ T328.heap _
  rw [e328]
  exact ⟨rfl, N328, ((((Keep.refl h0 [fa]).trans K304 (allS (P := fun x_ => x_ ∈ ([fa] : List Addr) ∨ h0.size ≤ x_) (Or.inl (by simp)) all0)).trans K315 (allS (P := fun x_ => x_ ∈ ([fa] : List Addr) ∨ h0.size ≤ x_) (Or.inl (by simp)) all0)).trans K325 (allS (P := fun x_ => x_ ∈ ([fa] : List Addr) ∨ h0.size ≤ x_) (Or.inl (by simp)) all0)), f325_0⟩
def Qst1 (Z : State) (x : Addr) (hob : Addr) (hok : ClassId) (mb : Addr) (mk : ClassId) (mv : List Value) (w0 : Int64) (w1 : Int64) (w2 : Int64) (fa : Addr) (fk : ClassId) (fv : Int64) (h0 : Heap) (n0 : Nat) (v : Option Value) (h : Heap) (L : List Loc) : Prop := ∃ (r : Addr), ∃ (rk : ClassId), v = some (.ref r) ∧ Fr n0 L ∧ Keep h0 h [] ∧ (Arv Z h r rk .long (2 : Int32) ([(.long fv), (.long (fv + w1))]) (.long (0 : Int64))) ∧ (@LE.le Nat instLENat h0.size r)
theorem ef_st1 (m : MethodId) (x0 : Addr) (x1 : Addr) : entryFrame m #[(.ref x0), (.ref x1)] 5 = mkF m 0 #[.val (.ref x0), .val (.ref x1), .unset, .unset, .unset] [] := by first | (simp [entryFrame, mkF, argsToLocals, Value.category]; done) | rfl
set_option maxRecDepth 65536 in
set_option maxHeartbeats 40000000 in
theorem st1 (l : Launch) (Z : State) (a0 : Array Value) (hw : ∀ d ∈ tables_1, d.before a0 Z = true) (ws : List Jvm.Cond) (x : Addr) (hob : Addr) (hok : ClassId) (mb : Addr) (mk : ClassId) (mv : List Value) (w0 : Int64) (w1 : Int64) (w2 : Int64) (fa : Addr) (fk : ClassId) (fv : Int64) (h0 : Heap) (n0 : Nat) (Z0 : n0 ≤ h0.size) (q0 : Exa Z h0 x "com/example/evenkeel/evenkeel/sim/LaneLayouts") (q1 : Fld Z h0 x "com/example/evenkeel/evenkeel/sim/LaneLayouts" "holds" "[J" (.ref hob)) (q2 : Fld Z h0 x "com/example/evenkeel/evenkeel/sim/LaneLayouts" "base" "I" (.int (0 : Int32))) (q3 : Fld Z h0 x "com/example/evenkeel/evenkeel/sim/LaneLayouts" "first" "I" (.int (1 : Int32))) (q4 : Fld Z h0 x "com/example/evenkeel/evenkeel/sim/LaneLayouts" "end" "I" (.int (3 : Int32))) (q5 : Fld Z h0 x "com/example/evenkeel/evenkeel/sim/LaneLayouts" "memories" "[[Lcom/example/evenkeel/evenkeel/sim/LaneLayouts$Memory;" (.ref mb)) (q6 : Arv Z h0 hob hok .long (64 : Int32) ([(.long w0), (.long w1), (.long w2)]) (.long (0 : Int64))) (q7 : Arv Z h0 mb mk (.array (.object "com/example/evenkeel/evenkeel/sim/LaneLayouts$Memory")) (1 : Int32) mv .null) (q8 : Arv Z h0 fa fk .long (1 : Int32) ([(.long fv)]) (.long (0 : Int64))) (q9 : Exa Z h0 fa "[J") :
    MetFree l (⟨"com/example/evenkeel/evenkeel/sim/LaneLayouts", "starts", "([J)[J"⟩ : MethodName) (head1 (Jvm.Cond.code (⟨"com/example/evenkeel/evenkeel/sim/LaneLayouts", "starts", "([J)[J"⟩ : MethodName) prog_130_method_6_code 5 (some (.array .long)) :: ws) ({ frames := 4, cells := 2, slots := 3, locals := 90 } : Room)) (fun a_ U_ => a_ = #[(.ref x), (.ref fa)] ∧ Z.Warmed39 U_.vm ∧ U_.heap = h0) (fun _ _ _ _ _ => True) (fun _ U_ o_ V_ => ∃ v_ L_, o_ = .returned v_ ∧ Qst1 Z x hob hok mb mk mv w0 w1 w2 fa fk fv h0 n0 v_ V_.heap L_ ∧ FrameEnd U_ o_ V_ L_ ({ frames := 4, cells := 2, slots := 3, locals := 90 } : Room).cells ({ frames := 4, cells := 2, slots := 3, locals := 90 } : Room).slots) := by
  refine MetFree.of_bodySF (plainFor_of_name pn_2) hisR ?_
  intro p e s m args below meth c s₁ Bd hml0 hP hK
  obtain ⟨rfl, hZ, hh⟩ := hP
  have hx := Bd.exec
  have hby := Bd.bytes
  have hml : c.maxLocals = 5 := hml0
  have hown : s.vm.findClass "com/example/evenkeel/evenkeel/sim/LaneLayouts" = some m.cls := findClass_of_methodNamed Bd.named
  have hnm := (name_of_methodNamed Bd.named Bd.method).1
  have X0 : Stand p l e ({ frames := 4, cells := 2, slots := 3, locals := 90 } : Room) s m #[(.ref x), (.ref fa)] below meth c s₁ [] 0 0 := Stand.of_body Bd
  have e0 : s₁.heap = h0 := by rw [← hh, Bd.state]; rfl
  have N0 := Fr.nil n0
  have lt329 := own_alt q0.lt
  have lt330 := own_alt q1.lt
  have lt331 := own_alt q2.lt
  have lt332 := own_alt q3.lt
  have lt333 := own_alt q4.lt
  have lt334 := own_alt q5.lt
  have lt335 := own_alt q6.lt
  have lt336 := own_alt q7.lt
  have lt337 := own_alt q8.lt
  have lt338 := own_alt q9.lt
  refine Gl.go (A := s₁.setTop (entryFrame m #[(.ref x), (.ref fa)] 5)) (P := fun o_ U_ => ∃ v_ L_, o_ = .returned v_ ∧ Qst1 Z x hob hok mb mk mv w0 w1 w2 fa fk fv h0 n0 v_ U_.heap L_ ∧ FrameEnd s o_ U_ L_ ({ frames := 4, cells := 2, slots := 3, locals := 90 } : Room).cells ({ frames := 4, cells := 2, slots := 3, locals := 90 } : Room).slots) (fun t_ k_ => castTop (ef_st1 m x fa) k_) ?_
  show Gl p.tables e below _ (s₁.setTop (mkF m 0 #[.val (.ref x), .val (.ref fa), .unset, .unset, .unset] []))
  refine Gl.go (fun _ hr => zXS_aloadN X0.here hx rfl (hb hby d6_0) rfl rfl hr) ?_
  obtain ⟨T339, h339, X339, e339, E339, V339, A339, st339⟩ := cloneH X0 hx hZ hown (hw _ (List.mem_of_getElem? (i := 50) rfl)) (hw _ (List.mem_of_getElem? (i := 51) rfl)) (hw _ (List.mem_of_getElem? (i := 55) rfl)) (hw _ (List.mem_of_getElem? (i := 53) rfl)) (hw _ (List.mem_of_getElem? (i := 54) rfl)) (hw _ (List.mem_of_getElem? (i := 56) rfl)) e0 (Arv.arh q8) q9 (g := (mkF m 1 #[.val (.ref x), .val (.ref fa), .unset, .unset, .unset] [(.ref fa)])) rfl (by rw [hml]; rfl) rfl (hb hby d6_1) (by decide) (W := 0) (cap := 1) (by show 2 * 0 + _ ≤ _; exact Nat.le_of_eq rfl) (by decide) (by decide) (by decide) (by decide)
  obtain ⟨b339, g339⟩ : ∃ z, z = h0.size := ⟨_, rfl⟩
  rw [← g339] at V339 A339 st339
  have z340 : h0.size ≤ h339.size := E339.1
  have lt339 := own_alt A339.lt
  have Va339 : Arv Z h339 b339 fk .long (1 : Int32) [(.long fv)] (.long (0 : Int64)) := V339
  refine Gl.go st339 ?_
  show Gl p.tables e below _ (T339.setTop (mkF m 4 #[.val (.ref x), .val (.ref fa), .unset, .unset, .unset] [(.ref b339)]))
  refine gCast Gl.cl X339 hx hZ hown (hw _ (List.mem_of_getElem? (i := 57) rfl)) e339 (Ins.self A339) rfl rfl (hb hby d6_4) ?_
  intro T341 X341 e341
  refine Gl.go (fun _ hr => zXS_astoreN X341.here hx rfl (hb hby d6_7) rfl rfl (l' := #[.val (.ref x), .val (.ref fa), .val (.ref b339), .unset, .unset]) rfl (zXS_aloadN X341.here hx rfl (hb hby d6_8) rfl rfl hr)) ?_
  have zz342 : n0 ≤ h339.size := by omega
  refine gStaticN Gl.cl (y := (⟨"java/util/Arrays", "sort", "([J)V"⟩ : MethodName)) (argsL := [(.ref b339)]) (rest := []) (mc := 0) (ms := 0) X341 hx hZ hown (mvT hZ (hw _ (List.mem_of_getElem? (i := 59) rfl))) (mvT hZ (hw _ (List.mem_of_getElem? (i := 60) rfl))) (mvT hZ (hw _ (List.mem_of_getElem? (i := 61) rfl))) (mvT hZ (hw _ (List.mem_of_getElem? (i := 62) rfl))) (by decide) (backOf (W := 0) (srt l Z a0 hw [] b339 fk fv h339 n0 zz342 Va339) hZ (hw _ (List.mem_of_getElem? (i := 62) rfl)) (hw _ (List.mem_of_getElem? (i := 61) rfl)) (by decide) (by decide)) rfl (by rw [hml]; rfl) (lenOf pd_3 rfl) rfl (by show 2 * 0 + _ ≤ _; exact Nat.le_of_eq rfl) (hb hby d6_9) rfl e341 (by decide) (by decide) ?_
  intro v342 T342 Lc342 hQ342 X342
  obtain ⟨rfl, Nq342, e342⟩ := hQ342
  have N342 := Fr.app N0 Nq342
  refine Gl.go (fun _ hr => zXS_aloadN X342.here hx rfl (hb hby d6_12) rfl rfl hr) ?_
  have Fc344 := (q4.ext E339)
  have Fc345 := (q3.ext E339)
  have zz343 : n0 ≤ h339.size := by omega
  have Ec346 := (q0.ext E339)
  refine gVirtualN Gl.cl (y := (⟨"com/example/evenkeel/evenkeel/sim/LaneLayouts", "size", "()I"⟩ : MethodName)) (z := (⟨"com/example/evenkeel/evenkeel/sim/LaneLayouts", "size", "()I"⟩ : MethodName)) (b := x) (argsL := []) (rest := []) (mc := 0) (ms := 0) X342 hx hZ hown (mvT hZ (hw _ (List.mem_of_getElem? (i := 73) rfl))) (mvT hZ (hw _ (List.mem_of_getElem? (i := 41) rfl))) (notFace_of_selects (args := #[]) (mvT hZ (hw _ (List.mem_of_getElem? (i := 43) rfl)))) (mvT hZ (hw _ (List.mem_of_getElem? (i := 43) rfl))) (mvT hZ (hw _ (List.mem_of_getElem? (i := 42) rfl))) (by decide) Ec346 (backOf (W := 0) (sz1 l Z a0 hw [] x h339 n0 zz343 Fc344 Fc345) hZ (hw _ (List.mem_of_getElem? (i := 44) rfl)) (hw _ (List.mem_of_getElem? (i := 3) rfl)) (by decide) (by decide)) rfl (by rw [hml]; rfl) (lenOf pd_4 rfl) rfl (by show 2 * 0 + _ ≤ _; exact Nat.le_of_eq rfl) (hb hby d6_13) rfl e342 (by decide) (by decide) ?_
  intro v343 T343 Lc343 hQ343 X343
  obtain ⟨rfl, Nq343, e343⟩ := hQ343
  have N343 := Fr.app N342 Nq343
  refine gNewPE Gl.cl X343 hx hZ (hw _ (List.mem_of_getElem? (i := 10) rfl)) e343 rfl (hb hby d6_16) rfl (by decide) (cap := 2) (by decide) (by decide) (by decide) (by decide) (ad := "[J") (by decide) ?_
  intro T347 h347 b347 k347 g347 X347 e347 E347 A347 B347
  have z348 : h339.size ≤ h347.size := E347.1
  have lt347 := own_alt A347.lt
  have V347 : Arv Z h347 b347 k347 .long (2 : Int32) [(.long (0 : Int64)), (.long (0 : Int64))] (.long (0 : Int64)) := (Arv.new A347 (by decide)).pad (pad_rep [] (.long (0 : Int64)) 2)
  refine Gl.go (fun _ hr => zXS_astoreN X347.here hx rfl (hb hby d6_18) rfl rfl (l' := #[.val (.ref x), .val (.ref fa), .val (.ref b339), .val (.ref b347), .unset]) rfl (zXS_aloadN X347.here hx rfl (hb hby d6_19) rfl rfl hr)) ?_
  have Fc349 := (Fc345.ext E347)
  refine gGetF (host := "") Gl.cl X347 hx hZ hown (Or.inl (hw _ (List.mem_of_getElem? (i := 38) rfl))) Via.refl e347 Fc349 rfl rfl (hb hby d6_20) ?_
  intro T350 X350 e350
  refine Gl.go (fun _ hr => zXS_istore X350.here hx rfl (hb hby d6_23) rfl (l' := #[.val (.ref x), .val (.ref fa), .val (.ref b339), .val (.ref b347), .val (.int (1 : Int32))]) rfl (zXS_iload X350.here hx rfl (hb hby d6_25) rfl (zXS_aloadN X350.here hx rfl (hb hby d6_27) rfl rfl hr))) ?_
  have Fc351 := (Fc344.ext E347)
  refine gGetF (host := "") Gl.cl X350 hx hZ hown (Or.inl (hw _ (List.mem_of_getElem? (i := 29) rfl))) Via.refl e350 Fc351 rfl rfl (hb hby d6_28) ?_
  intro T352 X352 e352
  refine Gl.go (fun _ hr => zXS_icmpNo X352.here hx rfl (hb hby d6_31) rfl (XT.ii_ge_f (by decide)) (zXS_aloadN X352.here hx rfl (hb hby d6_34) rfl rfl (zXS_iload X352.here hx rfl (hb hby d6_35) rfl (zXS_aloadN X352.here hx rfl (hb hby d6_37) rfl rfl hr)))) ?_
  refine gGetF (host := "") Gl.cl X352 hx hZ hown (Or.inl (hw _ (List.mem_of_getElem? (i := 38) rfl))) Via.refl e352 Fc349 rfl rfl (hb hby d6_38) ?_
  intro T353 X353 e353
  refine Gl.go (fun _ hr => zXS_isub X353.here hx rfl (hb hby d6_41) rfl (zXS_aloadN X353.here hx rfl (hb hby d6_42) rfl rfl (zXS_iconst X353.here hx rfl (hb hby d6_43) hr))) ?_
  have Vc354 := (Va339.ext E347)
  obtain ⟨c355, a355, q355, s355, m355, H355, U355⟩ := id Vc354
  have i355 := inb_of s355 (j := (0 : Int32)) ⟨(by decide), (by decide)⟩
  refine g_laload Gl.cl X353 hx hZ e353 a355 i355 (v := (.long fv)) (H355.at i355 rfl) rfl rfl (hb hby d6_44) ?_
  obtain ⟨c356, a356, q356, s356, m356, H356, U356⟩ := id V347
  refine gstJ Gl.cl X353 hx hZ e353 a356 (j := (0 : Int32)) (inb_of s356 ⟨(by decide), (by decide)⟩) rfl rfl (hb hby d6_45) ?_
  intro T356 h356 X356 e356 W356
  have z357 : h347.size ≤ h356.size := (Keep.of_wr W356).1
  have V356 : Arv Z h356 b347 k347 .long (2 : Int32) [(.long fv), (.long (0 : Int64))] (.long (0 : Int64)) := Arv.set a356 q356 s356 m356 H356 U356 rfl W356 0 rfl (Nat.le_of_ble_eq_true rfl)
  have N356 := Fr.snoc X356 N343 (own_ale (by omega))
  refine Gl.go (fun _ hr => zXS_aloadN X356.here hx rfl (hb hby d6_46) rfl rfl (zXS_aloadN X356.here hx rfl (hb hby d6_47) rfl rfl hr)) ?_
  have Fc358 := (((q1.ext E339).ext E347).other W356 (Or.inl (own_ane (by omega))))
  refine gGetF (host := "") Gl.cl X356 hx hZ hown (Or.inl (hw _ (List.mem_of_getElem? (i := 11) rfl))) Via.refl e356 Fc358 rfl rfl (hb hby d6_48) ?_
  intro T359 X359 e359
  refine Gl.go (fun _ hr => zXS_iload X359.here hx rfl (hb hby d6_51) rfl (zXS_aloadN X359.here hx rfl (hb hby d6_53) rfl rfl hr)) ?_
  have Fc360 := (((q2.ext E339).ext E347).other W356 (Or.inl (own_ane (by omega))))
  refine gGetF (host := "") Gl.cl X359 hx hZ hown (Or.inl (hw _ (List.mem_of_getElem? (i := 31) rfl))) Via.refl e359 Fc360 rfl rfl (hb hby d6_54) ?_
  intro T361 X361 e361
  refine Gl.go (fun _ hr => zXS_isub X361.here hx rfl (hb hby d6_57) rfl hr) ?_
  have Vc362 := (((q6.ext E339).ext E347).other W356 (own_ane (by omega)))
  obtain ⟨c363, a363, q363, s363, m363, H363, U363⟩ := id Vc362
  have i363 := inb_of s363 (j := (1 : Int32)) ⟨(by decide), (by decide)⟩
  refine g_laload Gl.cl X361 hx hZ e361 a363 i363 (v := (.long w1)) (H363.at i363 rfl) rfl rfl (hb hby d6_58) ?_
  have Vc365 := (Vc354.other W356 (own_ane (by omega)))
  have zz364 : n0 ≤ h356.size := by omega
  refine gStaticN Gl.cl (y := (⟨"com/example/evenkeel/evenkeel/sim/LaneLayouts", "take", "([JJ)V"⟩ : MethodName)) (argsL := [(.ref b339), (.long w1)]) (rest := []) (mc := 0) (ms := 0) X361 hx hZ hown (mvT hZ (hw _ (List.mem_of_getElem? (i := 74) rfl))) (mvT hZ (hw _ (List.mem_of_getElem? (i := 75) rfl))) (mvT hZ (hw _ (List.mem_of_getElem? (i := 3) rfl))) (mvT hZ (hw _ (List.mem_of_getElem? (i := 76) rfl))) (by decide) (backOf (W := 0) (tak l Z a0 hw [] b339 fk fv w1 h356 n0 zz364 (by omega) Vc365) hZ (hw _ (List.mem_of_getElem? (i := 76) rfl)) (hw _ (List.mem_of_getElem? (i := 3) rfl)) (by decide) (by decide)) rfl (by rw [hml]; rfl) (lenOf pd_5 rfl) rfl (by show 2 * 0 + _ ≤ _; exact Nat.le_of_eq rfl) (hb hby d6_59) rfl e361 (by decide) (by decide) ?_
  intro v364 T364 Lc364 hQ364 X364
  obtain ⟨rfl, Nq364, K364, f364_0⟩ := hQ364
  have z366 : h356.size ≤ T364.heap.size := K364.1
  have N364 := Fr.app N356 Nq364
  have lt367 := own_alt f364_0.lt
  refine Gl.go (fun _ hr => zXS_iinc X364.here hx rfl (hb hby d6_62) rfl (l' := #[.val (.ref x), .val (.ref fa), .val (.ref b339), .val (.ref b347), .val (.int (2 : Int32))]) rfl (zXS_goto X364.here hx rfl (pc0 := 65) (pc' := 25) rfl (hb hby d6_65) (by decide) (by decide) (zXS_iload X364.here hx rfl (hb hby d6_25) rfl (zXS_aloadN X364.here hx rfl (hb hby d6_27) rfl rfl hr)))) ?_
  have Fc368 := ((Fc351.other W356 (Or.inl (own_ane (by omega)))).keep K364 (ninS (own_ane (by omega)) nin0))
  refine gGetF (host := "") Gl.cl X364 hx hZ hown (Or.inl (hw _ (List.mem_of_getElem? (i := 29) rfl))) Via.refl (rfl : T364.heap = T364.heap) Fc368 rfl rfl (hb hby d6_28) ?_
  intro T369 X369 e369
  refine Gl.go (fun _ hr => zXS_icmpNo X369.here hx rfl (hb hby d6_31) rfl (XT.ii_ge_f (by decide)) (zXS_aloadN X369.here hx rfl (hb hby d6_34) rfl rfl (zXS_iload X369.here hx rfl (hb hby d6_35) rfl (zXS_aloadN X369.here hx rfl (hb hby d6_37) rfl rfl hr)))) ?_
  have Fc370 := ((Fc349.other W356 (Or.inl (own_ane (by omega)))).keep K364 (ninS (own_ane (by omega)) nin0))
  refine gGetF (host := "") Gl.cl X369 hx hZ hown (Or.inl (hw _ (List.mem_of_getElem? (i := 38) rfl))) Via.refl e369 Fc370 rfl rfl (hb hby d6_38) ?_
  intro T371 X371 e371
  refine Gl.go (fun _ hr => zXS_isub X371.here hx rfl (hb hby d6_41) rfl (zXS_aloadN X371.here hx rfl (hb hby d6_42) rfl rfl (zXS_iconst X371.here hx rfl (hb hby d6_43) hr))) ?_
  obtain ⟨c372, a372, q372, s372, m372, H372, U372⟩ := id f364_0
  have i372 := inb_of s372 (j := (0 : Int32)) ⟨(by decide), (by decide)⟩
  refine g_laload Gl.cl X371 hx hZ e371 a372 i372 (v := (.long (fv + w1))) (H372.at i372 rfl) rfl rfl (hb hby d6_44) ?_
  have Vc373 := (V356.keep K364 (ninS (own_ane (by omega)) nin0))
  obtain ⟨c374, a374, q374, s374, m374, H374, U374⟩ := id Vc373
  refine gstJ Gl.cl X371 hx hZ e371 a374 (j := (1 : Int32)) (inb_of s374 ⟨(by decide), (by decide)⟩) rfl rfl (hb hby d6_45) ?_
  intro T374 h374 X374 e374 W374
  have z375 : T364.heap.size ≤ h374.size := (Keep.of_wr W374).1
  have V374 : Arv Z h374 b347 k347 .long (2 : Int32) [(.long fv), (.long (fv + w1))] (.long (0 : Int64)) := Arv.set a374 q374 s374 m374 H374 U374 rfl W374 1 rfl (Nat.le_of_ble_eq_true rfl)
  have N374 := Fr.snoc X374 N364 (own_ale (by omega))
  refine Gl.go (fun _ hr => zXS_aloadN X374.here hx rfl (hb hby d6_46) rfl rfl (zXS_aloadN X374.here hx rfl (hb hby d6_47) rfl rfl hr)) ?_
  have Fc376 := ((Fc358.keep K364 (ninS (own_ane (by omega)) nin0)).other W374 (Or.inl (own_ane (by omega))))
  refine gGetF (host := "") Gl.cl X374 hx hZ hown (Or.inl (hw _ (List.mem_of_getElem? (i := 11) rfl))) Via.refl e374 Fc376 rfl rfl (hb hby d6_48) ?_
  intro T377 X377 e377
  refine Gl.go (fun _ hr => zXS_iload X377.here hx rfl (hb hby d6_51) rfl (zXS_aloadN X377.here hx rfl (hb hby d6_53) rfl rfl hr)) ?_
  have Fc378 := ((Fc360.keep K364 (ninS (own_ane (by omega)) nin0)).other W374 (Or.inl (own_ane (by omega))))
  refine gGetF (host := "") Gl.cl X377 hx hZ hown (Or.inl (hw _ (List.mem_of_getElem? (i := 31) rfl))) Via.refl e377 Fc378 rfl rfl (hb hby d6_54) ?_
  intro T379 X379 e379
  refine Gl.go (fun _ hr => zXS_isub X379.here hx rfl (hb hby d6_57) rfl hr) ?_
  have Vc380 := ((Vc362.keep K364 (ninS (own_ane (by omega)) nin0)).other W374 (own_ane (by omega)))
  obtain ⟨c381, a381, q381, s381, m381, H381, U381⟩ := id Vc380
  have i381 := inb_of s381 (j := (2 : Int32)) ⟨(by decide), (by decide)⟩
  refine g_laload Gl.cl X379 hx hZ e379 a381 i381 (v := (.long w2)) (H381.at i381 rfl) rfl rfl (hb hby d6_58) ?_
  have Vc383 := (f364_0.other W374 (own_ane (by omega)))
  have zz382 : n0 ≤ h374.size := by omega
  refine gStaticN Gl.cl (y := (⟨"com/example/evenkeel/evenkeel/sim/LaneLayouts", "take", "([JJ)V"⟩ : MethodName)) (argsL := [(.ref b339), (.long w2)]) (rest := []) (mc := 0) (ms := 0) X379 hx hZ hown (mvT hZ (hw _ (List.mem_of_getElem? (i := 74) rfl))) (mvT hZ (hw _ (List.mem_of_getElem? (i := 75) rfl))) (mvT hZ (hw _ (List.mem_of_getElem? (i := 3) rfl))) (mvT hZ (hw _ (List.mem_of_getElem? (i := 76) rfl))) (by decide) (backOf (W := 0) (tak l Z a0 hw [] b339 fk (fv + w1) w2 h374 n0 zz382 (by omega) Vc383) hZ (hw _ (List.mem_of_getElem? (i := 76) rfl)) (hw _ (List.mem_of_getElem? (i := 3) rfl)) (by decide) (by decide)) rfl (by rw [hml]; rfl) (lenOf pd_5 rfl) rfl (by show 2 * 0 + _ ≤ _; exact Nat.le_of_eq rfl) (hb hby d6_59) rfl e379 (by decide) (by decide) ?_
  intro v382 T382 Lc382 hQ382 X382
  obtain ⟨rfl, Nq382, K382, f382_0⟩ := hQ382
  have z384 : h374.size ≤ T382.heap.size := K382.1
  have N382 := Fr.app N374 Nq382
  have lt385 := own_alt f382_0.lt
  refine Gl.go (fun _ hr => zXS_iinc X382.here hx rfl (hb hby d6_62) rfl (l' := #[.val (.ref x), .val (.ref fa), .val (.ref b339), .val (.ref b347), .val (.int (3 : Int32))]) rfl (zXS_goto X382.here hx rfl (pc0 := 65) (pc' := 25) rfl (hb hby d6_65) (by decide) (by decide) (zXS_iload X382.here hx rfl (hb hby d6_25) rfl (zXS_aloadN X382.here hx rfl (hb hby d6_27) rfl rfl hr)))) ?_
  show Gl p.tables e below _ (T382.setTop (mkF m 28 #[.val (.ref x), .val (.ref fa), .val (.ref b339), .val (.ref b347), .val (.int (3 : Int32))] [(.ref x), (.int (3 : Int32))]))
  have Fc386 := ((Fc368.other W374 (Or.inl (own_ane (by omega)))).keep K382 (ninS (own_ane (by omega)) nin0))
  refine gGetF (host := "") Gl.cl X382 hx hZ hown (Or.inl (hw _ (List.mem_of_getElem? (i := 29) rfl))) Via.refl (rfl : T382.heap = T382.heap) Fc386 rfl rfl (hb hby d6_28) ?_
  intro T387 X387 e387
  refine Gl.go (fun _ hr => zXS_icmpYes X387.here hx rfl (pc0 := 31) (pc' := 68) rfl (hb hby d6_31) rfl (XT.ii_ge_t (by decide)) (by decide) (by decide) (zXS_aloadN X387.here hx rfl (hb hby d6_68) rfl rfl hr)) ?_
  have Vc388 := (V374.keep K382 (ninS (own_ane (by omega)) nin0))
  obtain ⟨fs, hr, hrun, hended, hW, hsame⟩ := X387.leave (v := some (.ref b347)) (fun h => by rw [Bd.returns] at h; cases h)
  refine ⟨_, _, retOut X387 hx Bd.returns rfl (Or.inr (Or.inr (Or.inr (Or.inr ⟨rfl, rfl, rfl⟩)))) (hb hby d6_69) hr, hrun, hended, _, _, rfl, ?_, ⟨⟨_, rfl⟩, hW, hsame.mono (by decide) (by decide)⟩⟩
  show Qst1 Z x hob hok mb mk mv w0 w1 w2 fa fk fv h0 n0 _ T387.heap _
  rw [e387]
  exact ⟨b347, k347, rfl, N382, (((((((Keep.refl h0 []).ext E339).ext E347).wr W356 (Or.inr (own_ale (by omega)))).trans K364 (allS (P := fun x_ => x_ ∈ ([] : List Addr) ∨ h0.size ≤ x_) (Or.inr (own_ale (by omega))) all0)).wr W374 (Or.inr (own_ale (by omega)))).trans K382 (allS (P := fun x_ => x_ ∈ ([] : List Addr) ∨ h0.size ≤ x_) (Or.inr (own_ale (by omega))) all0)), Vc388, (by omega)⟩
def Qlo1 (Z : State) (x : Addr) (hob : Addr) (hok : ClassId) (mb : Addr) (mk : ClassId) (mv : List Value) (w0 : Int64) (w1 : Int64) (w2 : Int64) (fa : Addr) (fk : ClassId) (fv : Int64) (h0 : Heap) (n0 : Nat) (v : Option Value) (h : Heap) (L : List Loc) : Prop := v = some (.long (fv + w1)) ∧ Fr n0 L ∧ Keep h0 h [fa] ∧ (Arv Z h fa fk .long (1 : Int32) ([(.long ((fv + w1) + w2))]) (.long (0 : Int64)))
theorem ef_lo1 (m : MethodId) (x0 : Addr) (x1 : Addr) : entryFrame m #[(.ref x0), (.ref x1)] 8 = mkF m 0 #[.val (.ref x0), .val (.ref x1), .unset, .unset, .unset, .unset, .unset, .unset] [] := by first | (simp [entryFrame, mkF, argsToLocals, Value.category]; done) | rfl
set_option maxRecDepth 65536 in
set_option maxHeartbeats 40000000 in
theorem lo1 (l : Launch) (Z : State) (a0 : Array Value) (hw : ∀ d ∈ tables_1, d.before a0 Z = true) (ws : List Jvm.Cond) (x : Addr) (hob : Addr) (hok : ClassId) (mb : Addr) (mk : ClassId) (mv : List Value) (w0 : Int64) (w1 : Int64) (w2 : Int64) (fa : Addr) (fk : ClassId) (fv : Int64) (h0 : Heap) (n0 : Nat) (Z0 : n0 ≤ h0.size) (q0 : Old Z n0 h0) (q1 : Sta Z Z.heap "com/example/evenkeel/evenkeel/sim/LaneLayouts" "TALLEST" "I" (.int (25 : Int32))) (q2 : Exa Z h0 x "com/example/evenkeel/evenkeel/sim/LaneLayouts") (q3 : Fld Z h0 x "com/example/evenkeel/evenkeel/sim/LaneLayouts" "holds" "[J" (.ref hob)) (q4 : Fld Z h0 x "com/example/evenkeel/evenkeel/sim/LaneLayouts" "base" "I" (.int (0 : Int32))) (q5 : Fld Z h0 x "com/example/evenkeel/evenkeel/sim/LaneLayouts" "first" "I" (.int (1 : Int32))) (q6 : Fld Z h0 x "com/example/evenkeel/evenkeel/sim/LaneLayouts" "end" "I" (.int (3 : Int32))) (q7 : Fld Z h0 x "com/example/evenkeel/evenkeel/sim/LaneLayouts" "memories" "[[Lcom/example/evenkeel/evenkeel/sim/LaneLayouts$Memory;" (.ref mb)) (q8 : Arv Z h0 hob hok .long (64 : Int32) ([(.long w0), (.long w1), (.long w2)]) (.long (0 : Int64))) (q9 : Arv Z h0 mb mk (.array (.object "com/example/evenkeel/evenkeel/sim/LaneLayouts$Memory")) (1 : Int32) mv .null) (q10 : Arv Z h0 fa fk .long (1 : Int32) ([(.long fv)]) (.long (0 : Int64))) (q11 : @LE.le Nat instLENat n0 fa) (q12 : ¬ @Eq Nat fa hob) (q13 : ¬ @Eq Nat fa x) (q14 : ¬ @Eq Nat fa mb) :
    MetFree l (⟨"com/example/evenkeel/evenkeel/sim/LaneLayouts", "layOut", "([J)J"⟩ : MethodName) (head1 (Jvm.Cond.code (⟨"com/example/evenkeel/evenkeel/sim/LaneLayouts", "layOut", "([J)J"⟩ : MethodName) prog_130_method_7_code 8 (some .long) :: ws) ({ frames := 4, cells := 0, slots := 0, locals := 90 } : Room)) (fun a_ U_ => a_ = #[(.ref x), (.ref fa)] ∧ Z.Warmed39 U_.vm ∧ U_.heap = h0) (fun _ _ _ _ _ => True) (fun _ U_ o_ V_ => ∃ v_ L_, o_ = .returned v_ ∧ Qlo1 Z x hob hok mb mk mv w0 w1 w2 fa fk fv h0 n0 v_ V_.heap L_ ∧ FrameEnd U_ o_ V_ L_ ({ frames := 4, cells := 0, slots := 0, locals := 90 } : Room).cells ({ frames := 4, cells := 0, slots := 0, locals := 90 } : Room).slots) := by
  refine MetFree.of_bodySF (plainFor_of_name pn_2) hisR ?_
  intro p e s m args below meth c s₁ Bd hml0 hP hK
  obtain ⟨rfl, hZ, hh⟩ := hP
  have hx := Bd.exec
  have hby := Bd.bytes
  have hml : c.maxLocals = 8 := hml0
  have hown : s.vm.findClass "com/example/evenkeel/evenkeel/sim/LaneLayouts" = some m.cls := findClass_of_methodNamed Bd.named
  have hnm := (name_of_methodNamed Bd.named Bd.method).1
  have X0 : Stand p l e ({ frames := 4, cells := 0, slots := 0, locals := 90 } : Room) s m #[(.ref x), (.ref fa)] below meth c s₁ [] 0 0 := Stand.of_body Bd
  have e0 : s₁.heap = h0 := by rw [← hh, Bd.state]; rfl
  have N0 := Fr.nil n0
  have zo := q0.1
  have lt389 := own_alt q2.lt
  have lt390 := own_alt q3.lt
  have lt391 := own_alt q4.lt
  have lt392 := own_alt q5.lt
  have lt393 := own_alt q6.lt
  have lt394 := own_alt q7.lt
  have lt395 := own_alt q8.lt
  have lt396 := own_alt q9.lt
  have lt397 := own_alt q10.lt
  refine Gl.go (A := s₁.setTop (entryFrame m #[(.ref x), (.ref fa)] 8)) (P := fun o_ U_ => ∃ v_ L_, o_ = .returned v_ ∧ Qlo1 Z x hob hok mb mk mv w0 w1 w2 fa fk fv h0 n0 v_ U_.heap L_ ∧ FrameEnd s o_ U_ L_ ({ frames := 4, cells := 0, slots := 0, locals := 90 } : Room).cells ({ frames := 4, cells := 0, slots := 0, locals := 90 } : Room).slots) (fun t_ k_ => castTop (ef_lo1 m x fa) k_) ?_
  show Gl p.tables e below _ (s₁.setTop (mkF m 0 #[.val (.ref x), .val (.ref fa), .unset, .unset, .unset, .unset, .unset, .unset] []))
  refine Gl.go (fun _ hr => zXS_aloadN X0.here hx rfl (hb hby d12_0) rfl rfl hr) ?_
  have zz398 : n0 ≤ h0.size := by omega
  refine gVirtualN Gl.cl (y := (⟨"com/example/evenkeel/evenkeel/sim/LaneLayouts", "size", "()I"⟩ : MethodName)) (z := (⟨"com/example/evenkeel/evenkeel/sim/LaneLayouts", "size", "()I"⟩ : MethodName)) (b := x) (argsL := []) (rest := []) (mc := 0) (ms := 0) X0 hx hZ hown (mvT hZ (hw _ (List.mem_of_getElem? (i := 73) rfl))) (mvT hZ (hw _ (List.mem_of_getElem? (i := 41) rfl))) (notFace_of_selects (args := #[]) (mvT hZ (hw _ (List.mem_of_getElem? (i := 43) rfl)))) (mvT hZ (hw _ (List.mem_of_getElem? (i := 43) rfl))) (mvT hZ (hw _ (List.mem_of_getElem? (i := 42) rfl))) (by decide) q2 (backOf (W := 0) (sz1 l Z a0 hw [] x h0 n0 zz398 q6 q5) hZ (hw _ (List.mem_of_getElem? (i := 44) rfl)) (hw _ (List.mem_of_getElem? (i := 3) rfl)) (by decide) (by decide)) rfl (by rw [hml]; rfl) (lenOf pd_4 rfl) rfl (by show 2 * 0 + _ ≤ _; exact Nat.le_of_eq rfl) (hb hby d12_1) rfl e0 (by decide) (by decide) ?_
  intro v398 T398 Lc398 hQ398 X398
  obtain ⟨rfl, Nq398, e398⟩ := hQ398
  have N398 := Fr.app N0 Nq398
  refine Gl.go (fun _ hr => zXS_ifYes X398.here hx rfl (pc0 := 4) (pc' := 17) rfl (hb hby d12_4) rfl (XT.i0_ne_t (by decide)) (by decide) (by decide) (zXS_aloadN X398.here hx rfl (hb hby d12_17) rfl rfl hr)) ?_
  obtain ⟨c399, a399, q399, s399, m399, H399, U399⟩ := id q10
  refine gLen Gl.cl X398 hx hZ e398 a399 s399 m399 rfl rfl (hb hby d12_18) ?_
  refine Gl.go (fun _ hr => zXS_bipush X398.here hx rfl (hb hby d12_19) (zXS_icmpNo X398.here hx rfl (hb hby d12_21) rfl (XT.ii_gt_f (by decide)) (zXS_iconst X398.here hx rfl (hb hby d12_24) (zXS_goto X398.here hx rfl (pc0 := 25) (pc' := 29) rfl (hb hby d12_25) (by decide) (by decide) (zXS_istoreN X398.here hx rfl (hb hby d12_29) rfl (l' := #[.val (.ref x), .val (.ref fa), .val (.int (1 : Int32)), .unset, .unset, .unset, .unset, .unset]) rfl (zXS_aloadN X398.here hx rfl (hb hby d12_30) rfl rfl hr)))))) ?_
  refine gGetF (host := "") Gl.cl X398 hx hZ hown (Or.inl (hw _ (List.mem_of_getElem? (i := 29) rfl))) Via.refl e398 q6 rfl rfl (hb hby d12_31) ?_
  intro T400 X400 e400
  refine Gl.go (fun _ hr => zXS_iconst X400.here hx rfl (hb hby d12_34) (zXS_isub X400.here hx rfl (hb hby d12_35) rfl (zXS_istoreN X400.here hx rfl (hb hby d12_36) rfl (l' := #[.val (.ref x), .val (.ref fa), .val (.int (1 : Int32)), .val (.int (2 : Int32)), .unset, .unset, .unset, .unset]) rfl (zXS_aloadN X400.here hx rfl (hb hby d12_37) rfl rfl hr)))) ?_
  refine gGetF (host := "") Gl.cl X400 hx hZ hown (Or.inl (hw _ (List.mem_of_getElem? (i := 38) rfl))) Via.refl e400 q5 rfl rfl (hb hby d12_38) ?_
  intro T401 X401 e401
  refine Gl.go (fun _ hr => zXS_istore X401.here hx rfl (hb hby d12_41) rfl (l' := #[.val (.ref x), .val (.ref fa), .val (.int (1 : Int32)), .val (.int (2 : Int32)), .val (.int (1 : Int32)), .unset, .unset, .unset]) rfl (zXS_iconst X401.here hx rfl (hb hby d12_43) (zXS_istore X401.here hx rfl (hb hby d12_44) rfl (l' := #[.val (.ref x), .val (.ref fa), .val (.int (1 : Int32)), .val (.int (2 : Int32)), .val (.int (1 : Int32)), .val (.int (1 : Int32)), .unset, .unset]) rfl (zXS_iload X401.here hx rfl (hb hby d12_46) rfl (zXS_iloadN X401.here hx rfl (hb hby d12_48) rfl (zXS_icmpNo X401.here hx rfl (hb hby d12_49) rfl (XT.ii_ge_f (by decide)) (zXS_iloadN X401.here hx rfl (hb hby d12_52) rfl (zXS_ifNo X401.here hx rfl (hb hby d12_53) rfl (XT.i0_eq_f (by decide)) (zXS_iload X401.here hx rfl (hb hby d12_56) rfl (zXS_iloadN X401.here hx rfl (hb hby d12_58) rfl hr)))))))))) ?_
  have zz402 : n0 ≤ h0.size := by omega
  refine gStaticN Gl.cl (y := (⟨"com/example/evenkeel/evenkeel/sim/LaneLayouts", "tallestFrom", "(II)I"⟩ : MethodName)) (argsL := [(.int (1 : Int32)), (.int (2 : Int32))]) (rest := []) (mc := 0) (ms := 0) X401 hx hZ hown (mvT hZ (hw _ (List.mem_of_getElem? (i := 82) rfl))) (mvT hZ (hw _ (List.mem_of_getElem? (i := 83) rfl))) (mvT hZ (hw _ (List.mem_of_getElem? (i := 3) rfl))) (mvT hZ (hw _ (List.mem_of_getElem? (i := 84) rfl))) (by decide) (backOf (W := 0) (tal1 l Z a0 hw []  h0 n0 zz402 q0 q1) hZ (hw _ (List.mem_of_getElem? (i := 84) rfl)) (hw _ (List.mem_of_getElem? (i := 3) rfl)) (by decide) (by decide)) rfl (by rw [hml]; rfl) (lenOf pd_6 rfl) rfl (by show 2 * 0 + _ ≤ _; exact Nat.le_of_eq rfl) (hb hby d12_59) rfl e401 (by decide) (by decide) ?_
  intro v402 T402 Lc402 hQ402 X402
  obtain ⟨rfl, Nq402, e402⟩ := hQ402
  have N402 := Fr.app N398 Nq402
  refine Gl.go (fun _ hr => zXS_goto X402.here hx rfl (pc0 := 62) (pc' := 66) rfl (hb hby d12_62) (by decide) (by decide) (zXS_istore X402.here hx rfl (hb hby d12_66) rfl (l' := #[.val (.ref x), .val (.ref fa), .val (.int (1 : Int32)), .val (.int (2 : Int32)), .val (.int (1 : Int32)), .val (.int (1 : Int32)), .val (.int (-1 : Int32)), .unset]) rfl (zXS_iload X402.here hx rfl (hb hby d12_68) rfl (zXS_ifNo X402.here hx rfl (hb hby d12_70) rfl (XT.i0_ge_f (by decide)) (zXS_aloadN X402.here hx rfl (hb hby d12_73) rfl rfl (zXS_aloadN X402.here hx rfl (hb hby d12_74) rfl rfl hr)))))) ?_
  refine gGetF (host := "") Gl.cl X402 hx hZ hown (Or.inl (hw _ (List.mem_of_getElem? (i := 11) rfl))) Via.refl e402 q3 rfl rfl (hb hby d12_75) ?_
  intro T403 X403 e403
  refine Gl.go (fun _ hr => zXS_iload X403.here hx rfl (hb hby d12_78) rfl (zXS_aloadN X403.here hx rfl (hb hby d12_80) rfl rfl hr)) ?_
  refine gGetF (host := "") Gl.cl X403 hx hZ hown (Or.inl (hw _ (List.mem_of_getElem? (i := 31) rfl))) Via.refl e403 q4 rfl rfl (hb hby d12_81) ?_
  intro T404 X404 e404
  refine Gl.go (fun _ hr => zXS_isub X404.here hx rfl (hb hby d12_84) rfl hr) ?_
  obtain ⟨c405, a405, q405, s405, m405, H405, U405⟩ := id q8
  have i405 := inb_of s405 (j := (1 : Int32)) ⟨(by decide), (by decide)⟩
  refine g_laload Gl.cl X404 hx hZ e404 a405 i405 (v := (.long w1)) (H405.at i405 rfl) rfl rfl (hb hby d12_85) ?_
  have zz406 : n0 ≤ h0.size := by omega
  refine gStaticN Gl.cl (y := (⟨"com/example/evenkeel/evenkeel/sim/LaneLayouts", "take", "([JJ)V"⟩ : MethodName)) (argsL := [(.ref fa), (.long w1)]) (rest := []) (mc := 0) (ms := 0) X404 hx hZ hown (mvT hZ (hw _ (List.mem_of_getElem? (i := 74) rfl))) (mvT hZ (hw _ (List.mem_of_getElem? (i := 75) rfl))) (mvT hZ (hw _ (List.mem_of_getElem? (i := 3) rfl))) (mvT hZ (hw _ (List.mem_of_getElem? (i := 76) rfl))) (by decide) (backOf (W := 0) (tak l Z a0 hw [] fa fk fv w1 h0 n0 zz406 (by omega) q10) hZ (hw _ (List.mem_of_getElem? (i := 76) rfl)) (hw _ (List.mem_of_getElem? (i := 3) rfl)) (by decide) (by decide)) rfl (by rw [hml]; rfl) (lenOf pd_5 rfl) rfl (by show 2 * 0 + _ ≤ _; exact Nat.le_of_eq rfl) (hb hby d12_86) rfl e404 (by decide) (by decide) ?_
  intro v406 T406 Lc406 hQ406 X406
  obtain ⟨rfl, Nq406, K406, f406_0⟩ := hQ406
  have z407 : h0.size ≤ T406.heap.size := K406.1
  have N406 := Fr.app N402 Nq406
  have lt408 := own_alt f406_0.lt
  refine Gl.go (fun _ hr => zXS_iconst X406.here hx rfl (hb hby d12_89) (zXS_istore X406.here hx rfl (hb hby d12_90) rfl (l' := #[.val (.ref x), .val (.ref fa), .val (.int (1 : Int32)), .val (.int (2 : Int32)), .val (.int (1 : Int32)), .val (.int (0 : Int32)), .val (.int (-1 : Int32)), .unset]) rfl (zXS_iinc X406.here hx rfl (hb hby d12_92) rfl (l' := #[.val (.ref x), .val (.ref fa), .val (.int (1 : Int32)), .val (.int (2 : Int32)), .val (.int (2 : Int32)), .val (.int (0 : Int32)), .val (.int (-1 : Int32)), .unset]) rfl (zXS_goto X406.here hx rfl (pc0 := 95) (pc' := 135) rfl (hb hby d12_95) (by decide) (by decide) (zXS_goto X406.here hx rfl (pc0 := 135) (pc' := 46) rfl (hb hby d12_135) (by decide) (by decide) (zXS_iload X406.here hx rfl (hb hby d12_46) rfl (zXS_iloadN X406.here hx rfl (hb hby d12_48) rfl (zXS_icmpYes X406.here hx rfl (pc0 := 49) (pc' := 138) rfl (hb hby d12_49) rfl (XT.ii_ge_t (by decide)) (by decide) (by decide) (zXS_aloadN X406.here hx rfl (hb hby d12_138) rfl rfl (zXS_iconst X406.here hx rfl (hb hby d12_139) hr)))))))))) ?_
  obtain ⟨c409, a409, q409, s409, m409, H409, U409⟩ := id f406_0
  have i409 := inb_of s409 (j := (0 : Int32)) ⟨(by decide), (by decide)⟩
  refine g_laload Gl.cl X406 hx hZ (rfl : T406.heap = T406.heap) a409 i409 (v := (.long (fv + w1))) (H409.at i409 rfl) rfl rfl (hb hby d12_140) ?_
  refine Gl.go (fun _ hr => zXT_lstore X406.here hx rfl (hb hby d12_141) rfl (l' := #[.val (.ref x), .val (.ref fa), .val (.int (1 : Int32)), .val (.int (2 : Int32)), .val (.int (2 : Int32)), .val (.int (0 : Int32)), .val (.long (fv + w1)), .second]) rfl (zXS_aloadN X406.here hx rfl (hb hby d12_143) rfl rfl (zXS_aloadN X406.here hx rfl (hb hby d12_144) rfl rfl hr))) ?_
  have Fc410 := (q3.keep K406 (ninS (own_ane (by omega)) nin0))
  refine gGetF (host := "") Gl.cl X406 hx hZ hown (Or.inl (hw _ (List.mem_of_getElem? (i := 11) rfl))) Via.refl (rfl : T406.heap = T406.heap) Fc410 rfl rfl (hb hby d12_145) ?_
  intro T411 X411 e411
  refine Gl.go (fun _ hr => zXS_iloadN X411.here hx rfl (hb hby d12_148) rfl (zXS_aloadN X411.here hx rfl (hb hby d12_149) rfl rfl hr)) ?_
  have Fc412 := (q4.keep K406 (ninS (own_ane (by omega)) nin0))
  refine gGetF (host := "") Gl.cl X411 hx hZ hown (Or.inl (hw _ (List.mem_of_getElem? (i := 31) rfl))) Via.refl e411 Fc412 rfl rfl (hb hby d12_150) ?_
  intro T413 X413 e413
  refine Gl.go (fun _ hr => zXS_isub X413.here hx rfl (hb hby d12_153) rfl hr) ?_
  show Gl p.tables e below _ (T413.setTop (mkF m 154 #[.val (.ref x), .val (.ref fa), .val (.int (1 : Int32)), .val (.int (2 : Int32)), .val (.int (2 : Int32)), .val (.int (0 : Int32)), .val (.long (fv + w1)), .second] [(.int (2 : Int32)), (.ref hob), (.ref fa)]))
  have Vc414 := (q8.keep K406 (ninS (own_ane (by omega)) nin0))
  obtain ⟨c415, a415, q415, s415, m415, H415, U415⟩ := id Vc414
  have i415 := inb_of s415 (j := (2 : Int32)) ⟨(by decide), (by decide)⟩
  refine g_laload Gl.cl X413 hx hZ e413 a415 i415 (v := (.long w2)) (H415.at i415 rfl) rfl rfl (hb hby d12_154) ?_
  have zz416 : n0 ≤ T406.heap.size := by omega
  refine gStaticN Gl.cl (y := (⟨"com/example/evenkeel/evenkeel/sim/LaneLayouts", "take", "([JJ)V"⟩ : MethodName)) (argsL := [(.ref fa), (.long w2)]) (rest := []) (mc := 0) (ms := 0) X413 hx hZ hown (mvT hZ (hw _ (List.mem_of_getElem? (i := 74) rfl))) (mvT hZ (hw _ (List.mem_of_getElem? (i := 75) rfl))) (mvT hZ (hw _ (List.mem_of_getElem? (i := 3) rfl))) (mvT hZ (hw _ (List.mem_of_getElem? (i := 76) rfl))) (by decide) (backOf (W := 0) (tak l Z a0 hw [] fa fk (fv + w1) w2 T406.heap n0 zz416 (by omega) f406_0) hZ (hw _ (List.mem_of_getElem? (i := 76) rfl)) (hw _ (List.mem_of_getElem? (i := 3) rfl)) (by decide) (by decide)) rfl (by rw [hml]; rfl) (lenOf pd_5 rfl) rfl (by show 2 * 0 + _ ≤ _; exact Nat.le_of_eq rfl) (hb hby d12_155) rfl e413 (by decide) (by decide) ?_
  intro v416 T416 Lc416 hQ416 X416
  obtain ⟨rfl, Nq416, K416, f416_0⟩ := hQ416
  have z417 : T406.heap.size ≤ T416.heap.size := K416.1
  have N416 := Fr.app N406 Nq416
  have lt418 := own_alt f416_0.lt
  refine Gl.go (fun _ hr => zXS_aloadN X416.here hx rfl (hb hby d12_158) rfl rfl hr) ?_
  have zz419 : n0 ≤ T416.heap.size := by omega
  refine gStaticN Gl.cl (y := (⟨"java/util/Arrays", "sort", "([J)V"⟩ : MethodName)) (argsL := [(.ref fa)]) (rest := []) (mc := 0) (ms := 0) X416 hx hZ hown (mvT hZ (hw _ (List.mem_of_getElem? (i := 59) rfl))) (mvT hZ (hw _ (List.mem_of_getElem? (i := 60) rfl))) (mvT hZ (hw _ (List.mem_of_getElem? (i := 61) rfl))) (mvT hZ (hw _ (List.mem_of_getElem? (i := 62) rfl))) (by decide) (backOf (W := 0) (srt l Z a0 hw [] fa fk ((fv + w1) + w2) T416.heap n0 zz419 f416_0) hZ (hw _ (List.mem_of_getElem? (i := 62) rfl)) (hw _ (List.mem_of_getElem? (i := 61) rfl)) (by decide) (by decide)) rfl (by rw [hml]; rfl) (lenOf pd_3 rfl) rfl (by show 2 * 0 + _ ≤ _; exact Nat.le_of_eq rfl) (hb hby d12_159) rfl (rfl : T416.heap = T416.heap) (by decide) (by decide) ?_
  intro v419 T419 Lc419 hQ419 X419
  obtain ⟨rfl, Nq419, e419⟩ := hQ419
  have N419 := Fr.app N416 Nq419
  refine Gl.go (fun _ hr => zXT_lload X419.here hx rfl (hb hby d12_162) rfl hr) ?_
  obtain ⟨fs, hr, hrun, hended, hW, hsame⟩ := X419.leave (v := some (.long (fv + w1))) (fun h => by rw [Bd.returns] at h; cases h)
  refine ⟨_, _, retOut X419 hx Bd.returns rfl (Or.inr (Or.inl ⟨rfl, rfl, _, rfl⟩)) (hb hby d12_164) hr, hrun, hended, _, _, rfl, ?_, ⟨⟨_, rfl⟩, hW, hsame.mono (by decide) (by decide)⟩⟩
  show Qlo1 Z x hob hok mb mk mv w0 w1 w2 fa fk fv h0 n0 _ T419.heap _
  rw [e419]
  exact ⟨rfl, N419, (((Keep.refl h0 [fa]).trans K406 (allS (P := fun x_ => x_ ∈ ([fa] : List Addr) ∨ h0.size ≤ x_) (Or.inl (by simp)) all0)).trans K416 (allS (P := fun x_ => x_ ∈ ([fa] : List Addr) ∨ h0.size ≤ x_) (Or.inl (by simp)) all0)), f416_0⟩
def Qst2 (Z : State) (x : Addr) (hob : Addr) (hok : ClassId) (mb : Addr) (mk : ClassId) (mv : List Value) (w0 : Int64) (w1 : Int64) (w2 : Int64) (fa : Addr) (fk : ClassId) (fv : Int64) (h0 : Heap) (n0 : Nat) (v : Option Value) (h : Heap) (L : List Loc) : Prop := ∃ (r : Addr), ∃ (rk : ClassId), v = some (.ref r) ∧ Fr n0 L ∧ Keep h0 h [] ∧ (Arv Z h r rk .long (1 : Int32) ([(.long fv)]) (.long (0 : Int64))) ∧ (@LE.le Nat instLENat h0.size r)
theorem ef_st2 (m : MethodId) (x0 : Addr) (x1 : Addr) : entryFrame m #[(.ref x0), (.ref x1)] 5 = mkF m 0 #[.val (.ref x0), .val (.ref x1), .unset, .unset, .unset] [] := by first | (simp [entryFrame, mkF, argsToLocals, Value.category]; done) | rfl
set_option maxRecDepth 65536 in
set_option maxHeartbeats 40000000 in
theorem st2 (l : Launch) (Z : State) (a0 : Array Value) (hw : ∀ d ∈ tables_1, d.before a0 Z = true) (ws : List Jvm.Cond) (x : Addr) (hob : Addr) (hok : ClassId) (mb : Addr) (mk : ClassId) (mv : List Value) (w0 : Int64) (w1 : Int64) (w2 : Int64) (fa : Addr) (fk : ClassId) (fv : Int64) (h0 : Heap) (n0 : Nat) (Z0 : n0 ≤ h0.size) (q0 : Exa Z h0 x "com/example/evenkeel/evenkeel/sim/LaneLayouts") (q1 : Fld Z h0 x "com/example/evenkeel/evenkeel/sim/LaneLayouts" "holds" "[J" (.ref hob)) (q2 : Fld Z h0 x "com/example/evenkeel/evenkeel/sim/LaneLayouts" "base" "I" (.int (0 : Int32))) (q3 : Fld Z h0 x "com/example/evenkeel/evenkeel/sim/LaneLayouts" "first" "I" (.int (2 : Int32))) (q4 : Fld Z h0 x "com/example/evenkeel/evenkeel/sim/LaneLayouts" "end" "I" (.int (3 : Int32))) (q5 : Fld Z h0 x "com/example/evenkeel/evenkeel/sim/LaneLayouts" "memories" "[[Lcom/example/evenkeel/evenkeel/sim/LaneLayouts$Memory;" (.ref mb)) (q6 : Arv Z h0 hob hok .long (64 : Int32) ([(.long w0), (.long w1), (.long w2)]) (.long (0 : Int64))) (q7 : Arv Z h0 mb mk (.array (.object "com/example/evenkeel/evenkeel/sim/LaneLayouts$Memory")) (1 : Int32) mv .null) (q8 : Arv Z h0 fa fk .long (1 : Int32) ([(.long fv)]) (.long (0 : Int64))) (q9 : Exa Z h0 fa "[J") :
    MetFree l (⟨"com/example/evenkeel/evenkeel/sim/LaneLayouts", "starts", "([J)[J"⟩ : MethodName) (head1 (Jvm.Cond.code (⟨"com/example/evenkeel/evenkeel/sim/LaneLayouts", "starts", "([J)[J"⟩ : MethodName) prog_130_method_6_code 5 (some (.array .long)) :: ws) ({ frames := 4, cells := 2, slots := 2, locals := 90 } : Room)) (fun a_ U_ => a_ = #[(.ref x), (.ref fa)] ∧ Z.Warmed39 U_.vm ∧ U_.heap = h0) (fun _ _ _ _ _ => True) (fun _ U_ o_ V_ => ∃ v_ L_, o_ = .returned v_ ∧ Qst2 Z x hob hok mb mk mv w0 w1 w2 fa fk fv h0 n0 v_ V_.heap L_ ∧ FrameEnd U_ o_ V_ L_ ({ frames := 4, cells := 2, slots := 2, locals := 90 } : Room).cells ({ frames := 4, cells := 2, slots := 2, locals := 90 } : Room).slots) := by
  refine MetFree.of_bodySF (plainFor_of_name pn_2) hisR ?_
  intro p e s m args below meth c s₁ Bd hml0 hP hK
  obtain ⟨rfl, hZ, hh⟩ := hP
  have hx := Bd.exec
  have hby := Bd.bytes
  have hml : c.maxLocals = 5 := hml0
  have hown : s.vm.findClass "com/example/evenkeel/evenkeel/sim/LaneLayouts" = some m.cls := findClass_of_methodNamed Bd.named
  have hnm := (name_of_methodNamed Bd.named Bd.method).1
  have X0 : Stand p l e ({ frames := 4, cells := 2, slots := 2, locals := 90 } : Room) s m #[(.ref x), (.ref fa)] below meth c s₁ [] 0 0 := Stand.of_body Bd
  have e0 : s₁.heap = h0 := by rw [← hh, Bd.state]; rfl
  have N0 := Fr.nil n0
  have lt420 := own_alt q0.lt
  have lt421 := own_alt q1.lt
  have lt422 := own_alt q2.lt
  have lt423 := own_alt q3.lt
  have lt424 := own_alt q4.lt
  have lt425 := own_alt q5.lt
  have lt426 := own_alt q6.lt
  have lt427 := own_alt q7.lt
  have lt428 := own_alt q8.lt
  have lt429 := own_alt q9.lt
  refine Gl.go (A := s₁.setTop (entryFrame m #[(.ref x), (.ref fa)] 5)) (P := fun o_ U_ => ∃ v_ L_, o_ = .returned v_ ∧ Qst2 Z x hob hok mb mk mv w0 w1 w2 fa fk fv h0 n0 v_ U_.heap L_ ∧ FrameEnd s o_ U_ L_ ({ frames := 4, cells := 2, slots := 2, locals := 90 } : Room).cells ({ frames := 4, cells := 2, slots := 2, locals := 90 } : Room).slots) (fun t_ k_ => castTop (ef_st2 m x fa) k_) ?_
  show Gl p.tables e below _ (s₁.setTop (mkF m 0 #[.val (.ref x), .val (.ref fa), .unset, .unset, .unset] []))
  refine Gl.go (fun _ hr => zXS_aloadN X0.here hx rfl (hb hby d6_0) rfl rfl hr) ?_
  obtain ⟨T430, h430, X430, e430, E430, V430, A430, st430⟩ := cloneH X0 hx hZ hown (hw _ (List.mem_of_getElem? (i := 50) rfl)) (hw _ (List.mem_of_getElem? (i := 51) rfl)) (hw _ (List.mem_of_getElem? (i := 55) rfl)) (hw _ (List.mem_of_getElem? (i := 53) rfl)) (hw _ (List.mem_of_getElem? (i := 54) rfl)) (hw _ (List.mem_of_getElem? (i := 56) rfl)) e0 (Arv.arh q8) q9 (g := (mkF m 1 #[.val (.ref x), .val (.ref fa), .unset, .unset, .unset] [(.ref fa)])) rfl (by rw [hml]; rfl) rfl (hb hby d6_1) (by decide) (W := 0) (cap := 1) (by show 2 * 0 + _ ≤ _; exact Nat.le_of_eq rfl) (by decide) (by decide) (by decide) (by decide)
  obtain ⟨b430, g430⟩ : ∃ z, z = h0.size := ⟨_, rfl⟩
  rw [← g430] at V430 A430 st430
  have z431 : h0.size ≤ h430.size := E430.1
  have lt430 := own_alt A430.lt
  have Va430 : Arv Z h430 b430 fk .long (1 : Int32) [(.long fv)] (.long (0 : Int64)) := V430
  refine Gl.go st430 ?_
  show Gl p.tables e below _ (T430.setTop (mkF m 4 #[.val (.ref x), .val (.ref fa), .unset, .unset, .unset] [(.ref b430)]))
  refine gCast Gl.cl X430 hx hZ hown (hw _ (List.mem_of_getElem? (i := 57) rfl)) e430 (Ins.self A430) rfl rfl (hb hby d6_4) ?_
  intro T432 X432 e432
  refine Gl.go (fun _ hr => zXS_astoreN X432.here hx rfl (hb hby d6_7) rfl rfl (l' := #[.val (.ref x), .val (.ref fa), .val (.ref b430), .unset, .unset]) rfl (zXS_aloadN X432.here hx rfl (hb hby d6_8) rfl rfl hr)) ?_
  have zz433 : n0 ≤ h430.size := by omega
  refine gStaticN Gl.cl (y := (⟨"java/util/Arrays", "sort", "([J)V"⟩ : MethodName)) (argsL := [(.ref b430)]) (rest := []) (mc := 0) (ms := 0) X432 hx hZ hown (mvT hZ (hw _ (List.mem_of_getElem? (i := 59) rfl))) (mvT hZ (hw _ (List.mem_of_getElem? (i := 60) rfl))) (mvT hZ (hw _ (List.mem_of_getElem? (i := 61) rfl))) (mvT hZ (hw _ (List.mem_of_getElem? (i := 62) rfl))) (by decide) (backOf (W := 0) (srt l Z a0 hw [] b430 fk fv h430 n0 zz433 Va430) hZ (hw _ (List.mem_of_getElem? (i := 62) rfl)) (hw _ (List.mem_of_getElem? (i := 61) rfl)) (by decide) (by decide)) rfl (by rw [hml]; rfl) (lenOf pd_3 rfl) rfl (by show 2 * 0 + _ ≤ _; exact Nat.le_of_eq rfl) (hb hby d6_9) rfl e432 (by decide) (by decide) ?_
  intro v433 T433 Lc433 hQ433 X433
  obtain ⟨rfl, Nq433, e433⟩ := hQ433
  have N433 := Fr.app N0 Nq433
  refine Gl.go (fun _ hr => zXS_aloadN X433.here hx rfl (hb hby d6_12) rfl rfl hr) ?_
  have Fc435 := (q4.ext E430)
  have Fc436 := (q3.ext E430)
  have zz434 : n0 ≤ h430.size := by omega
  have Ec437 := (q0.ext E430)
  refine gVirtualN Gl.cl (y := (⟨"com/example/evenkeel/evenkeel/sim/LaneLayouts", "size", "()I"⟩ : MethodName)) (z := (⟨"com/example/evenkeel/evenkeel/sim/LaneLayouts", "size", "()I"⟩ : MethodName)) (b := x) (argsL := []) (rest := []) (mc := 0) (ms := 0) X433 hx hZ hown (mvT hZ (hw _ (List.mem_of_getElem? (i := 73) rfl))) (mvT hZ (hw _ (List.mem_of_getElem? (i := 41) rfl))) (notFace_of_selects (args := #[]) (mvT hZ (hw _ (List.mem_of_getElem? (i := 43) rfl)))) (mvT hZ (hw _ (List.mem_of_getElem? (i := 43) rfl))) (mvT hZ (hw _ (List.mem_of_getElem? (i := 42) rfl))) (by decide) Ec437 (backOf (W := 0) (sz2 l Z a0 hw [] x h430 n0 zz434 Fc435 Fc436) hZ (hw _ (List.mem_of_getElem? (i := 44) rfl)) (hw _ (List.mem_of_getElem? (i := 3) rfl)) (by decide) (by decide)) rfl (by rw [hml]; rfl) (lenOf pd_4 rfl) rfl (by show 2 * 0 + _ ≤ _; exact Nat.le_of_eq rfl) (hb hby d6_13) rfl e433 (by decide) (by decide) ?_
  intro v434 T434 Lc434 hQ434 X434
  obtain ⟨rfl, Nq434, e434⟩ := hQ434
  have N434 := Fr.app N433 Nq434
  refine gNewPE Gl.cl X434 hx hZ (hw _ (List.mem_of_getElem? (i := 10) rfl)) e434 rfl (hb hby d6_16) rfl (by decide) (cap := 1) (by decide) (by decide) (by decide) (by decide) (ad := "[J") (by decide) ?_
  intro T438 h438 b438 k438 g438 X438 e438 E438 A438 B438
  have z439 : h430.size ≤ h438.size := E438.1
  have lt438 := own_alt A438.lt
  have V438 : Arv Z h438 b438 k438 .long (1 : Int32) [(.long (0 : Int64))] (.long (0 : Int64)) := (Arv.new A438 (by decide)).pad (pad_rep [] (.long (0 : Int64)) 1)
  refine Gl.go (fun _ hr => zXS_astoreN X438.here hx rfl (hb hby d6_18) rfl rfl (l' := #[.val (.ref x), .val (.ref fa), .val (.ref b430), .val (.ref b438), .unset]) rfl (zXS_aloadN X438.here hx rfl (hb hby d6_19) rfl rfl hr)) ?_
  have Fc440 := (Fc436.ext E438)
  refine gGetF (host := "") Gl.cl X438 hx hZ hown (Or.inl (hw _ (List.mem_of_getElem? (i := 38) rfl))) Via.refl e438 Fc440 rfl rfl (hb hby d6_20) ?_
  intro T441 X441 e441
  refine Gl.go (fun _ hr => zXS_istore X441.here hx rfl (hb hby d6_23) rfl (l' := #[.val (.ref x), .val (.ref fa), .val (.ref b430), .val (.ref b438), .val (.int (2 : Int32))]) rfl (zXS_iload X441.here hx rfl (hb hby d6_25) rfl (zXS_aloadN X441.here hx rfl (hb hby d6_27) rfl rfl hr))) ?_
  have Fc442 := (Fc435.ext E438)
  refine gGetF (host := "") Gl.cl X441 hx hZ hown (Or.inl (hw _ (List.mem_of_getElem? (i := 29) rfl))) Via.refl e441 Fc442 rfl rfl (hb hby d6_28) ?_
  intro T443 X443 e443
  refine Gl.go (fun _ hr => zXS_icmpNo X443.here hx rfl (hb hby d6_31) rfl (XT.ii_ge_f (by decide)) (zXS_aloadN X443.here hx rfl (hb hby d6_34) rfl rfl (zXS_iload X443.here hx rfl (hb hby d6_35) rfl (zXS_aloadN X443.here hx rfl (hb hby d6_37) rfl rfl hr)))) ?_
  refine gGetF (host := "") Gl.cl X443 hx hZ hown (Or.inl (hw _ (List.mem_of_getElem? (i := 38) rfl))) Via.refl e443 Fc440 rfl rfl (hb hby d6_38) ?_
  intro T444 X444 e444
  refine Gl.go (fun _ hr => zXS_isub X444.here hx rfl (hb hby d6_41) rfl (zXS_aloadN X444.here hx rfl (hb hby d6_42) rfl rfl (zXS_iconst X444.here hx rfl (hb hby d6_43) hr))) ?_
  have Vc445 := (Va430.ext E438)
  obtain ⟨c446, a446, q446, s446, m446, H446, U446⟩ := id Vc445
  have i446 := inb_of s446 (j := (0 : Int32)) ⟨(by decide), (by decide)⟩
  refine g_laload Gl.cl X444 hx hZ e444 a446 i446 (v := (.long fv)) (H446.at i446 rfl) rfl rfl (hb hby d6_44) ?_
  obtain ⟨c447, a447, q447, s447, m447, H447, U447⟩ := id V438
  refine gstJ Gl.cl X444 hx hZ e444 a447 (j := (0 : Int32)) (inb_of s447 ⟨(by decide), (by decide)⟩) rfl rfl (hb hby d6_45) ?_
  intro T447 h447 X447 e447 W447
  have z448 : h438.size ≤ h447.size := (Keep.of_wr W447).1
  have V447 : Arv Z h447 b438 k438 .long (1 : Int32) [(.long fv)] (.long (0 : Int64)) := Arv.set a447 q447 s447 m447 H447 U447 rfl W447 0 rfl (Nat.le_of_ble_eq_true rfl)
  have N447 := Fr.snoc X447 N434 (own_ale (by omega))
  refine Gl.go (fun _ hr => zXS_aloadN X447.here hx rfl (hb hby d6_46) rfl rfl (zXS_aloadN X447.here hx rfl (hb hby d6_47) rfl rfl hr)) ?_
  have Fc449 := (((q1.ext E430).ext E438).other W447 (Or.inl (own_ane (by omega))))
  refine gGetF (host := "") Gl.cl X447 hx hZ hown (Or.inl (hw _ (List.mem_of_getElem? (i := 11) rfl))) Via.refl e447 Fc449 rfl rfl (hb hby d6_48) ?_
  intro T450 X450 e450
  refine Gl.go (fun _ hr => zXS_iload X450.here hx rfl (hb hby d6_51) rfl (zXS_aloadN X450.here hx rfl (hb hby d6_53) rfl rfl hr)) ?_
  have Fc451 := (((q2.ext E430).ext E438).other W447 (Or.inl (own_ane (by omega))))
  refine gGetF (host := "") Gl.cl X450 hx hZ hown (Or.inl (hw _ (List.mem_of_getElem? (i := 31) rfl))) Via.refl e450 Fc451 rfl rfl (hb hby d6_54) ?_
  intro T452 X452 e452
  refine Gl.go (fun _ hr => zXS_isub X452.here hx rfl (hb hby d6_57) rfl hr) ?_
  have Vc453 := (((q6.ext E430).ext E438).other W447 (own_ane (by omega)))
  obtain ⟨c454, a454, q454, s454, m454, H454, U454⟩ := id Vc453
  have i454 := inb_of s454 (j := (2 : Int32)) ⟨(by decide), (by decide)⟩
  refine g_laload Gl.cl X452 hx hZ e452 a454 i454 (v := (.long w2)) (H454.at i454 rfl) rfl rfl (hb hby d6_58) ?_
  have Vc456 := (Vc445.other W447 (own_ane (by omega)))
  have zz455 : n0 ≤ h447.size := by omega
  refine gStaticN Gl.cl (y := (⟨"com/example/evenkeel/evenkeel/sim/LaneLayouts", "take", "([JJ)V"⟩ : MethodName)) (argsL := [(.ref b430), (.long w2)]) (rest := []) (mc := 0) (ms := 0) X452 hx hZ hown (mvT hZ (hw _ (List.mem_of_getElem? (i := 74) rfl))) (mvT hZ (hw _ (List.mem_of_getElem? (i := 75) rfl))) (mvT hZ (hw _ (List.mem_of_getElem? (i := 3) rfl))) (mvT hZ (hw _ (List.mem_of_getElem? (i := 76) rfl))) (by decide) (backOf (W := 0) (tak l Z a0 hw [] b430 fk fv w2 h447 n0 zz455 (by omega) Vc456) hZ (hw _ (List.mem_of_getElem? (i := 76) rfl)) (hw _ (List.mem_of_getElem? (i := 3) rfl)) (by decide) (by decide)) rfl (by rw [hml]; rfl) (lenOf pd_5 rfl) rfl (by show 2 * 0 + _ ≤ _; exact Nat.le_of_eq rfl) (hb hby d6_59) rfl e452 (by decide) (by decide) ?_
  intro v455 T455 Lc455 hQ455 X455
  obtain ⟨rfl, Nq455, K455, f455_0⟩ := hQ455
  have z457 : h447.size ≤ T455.heap.size := K455.1
  have N455 := Fr.app N447 Nq455
  have lt458 := own_alt f455_0.lt
  refine Gl.go (fun _ hr => zXS_iinc X455.here hx rfl (hb hby d6_62) rfl (l' := #[.val (.ref x), .val (.ref fa), .val (.ref b430), .val (.ref b438), .val (.int (3 : Int32))]) rfl (zXS_goto X455.here hx rfl (pc0 := 65) (pc' := 25) rfl (hb hby d6_65) (by decide) (by decide) (zXS_iload X455.here hx rfl (hb hby d6_25) rfl (zXS_aloadN X455.here hx rfl (hb hby d6_27) rfl rfl hr)))) ?_
  have Fc459 := ((Fc442.other W447 (Or.inl (own_ane (by omega)))).keep K455 (ninS (own_ane (by omega)) nin0))
  refine gGetF (host := "") Gl.cl X455 hx hZ hown (Or.inl (hw _ (List.mem_of_getElem? (i := 29) rfl))) Via.refl (rfl : T455.heap = T455.heap) Fc459 rfl rfl (hb hby d6_28) ?_
  intro T460 X460 e460
  refine Gl.go (fun _ hr => zXS_icmpYes X460.here hx rfl (pc0 := 31) (pc' := 68) rfl (hb hby d6_31) rfl (XT.ii_ge_t (by decide)) (by decide) (by decide) (zXS_aloadN X460.here hx rfl (hb hby d6_68) rfl rfl hr)) ?_
  have Vc461 := (V447.keep K455 (ninS (own_ane (by omega)) nin0))
  obtain ⟨fs, hr, hrun, hended, hW, hsame⟩ := X460.leave (v := some (.ref b438)) (fun h => by rw [Bd.returns] at h; cases h)
  refine ⟨_, _, retOut X460 hx Bd.returns rfl (Or.inr (Or.inr (Or.inr (Or.inr ⟨rfl, rfl, rfl⟩)))) (hb hby d6_69) hr, hrun, hended, _, _, rfl, ?_, ⟨⟨_, rfl⟩, hW, hsame.mono (by decide) (by decide)⟩⟩
  show Qst2 Z x hob hok mb mk mv w0 w1 w2 fa fk fv h0 n0 _ T460.heap _
  rw [e460]
  exact ⟨b438, k438, rfl, N455, (((((Keep.refl h0 []).ext E430).ext E438).wr W447 (Or.inr (own_ale (by omega)))).trans K455 (allS (P := fun x_ => x_ ∈ ([] : List Addr) ∨ h0.size ≤ x_) (Or.inr (own_ale (by omega))) all0)), Vc461, (by omega)⟩
def Qlo2 (Z : State) (x : Addr) (hob : Addr) (hok : ClassId) (mb : Addr) (mk : ClassId) (mv : List Value) (w0 : Int64) (w1 : Int64) (w2 : Int64) (fa : Addr) (fk : ClassId) (fv : Int64) (h0 : Heap) (n0 : Nat) (v : Option Value) (h : Heap) (L : List Loc) : Prop := v = some (.long fv) ∧ Fr n0 L ∧ Keep h0 h [fa] ∧ (Arv Z h fa fk .long (1 : Int32) ([(.long (fv + w2))]) (.long (0 : Int64)))
theorem ef_lo2 (m : MethodId) (x0 : Addr) (x1 : Addr) : entryFrame m #[(.ref x0), (.ref x1)] 8 = mkF m 0 #[.val (.ref x0), .val (.ref x1), .unset, .unset, .unset, .unset, .unset, .unset] [] := by first | (simp [entryFrame, mkF, argsToLocals, Value.category]; done) | rfl
set_option maxRecDepth 65536 in
set_option maxHeartbeats 40000000 in
theorem lo2 (l : Launch) (Z : State) (a0 : Array Value) (hw : ∀ d ∈ tables_1, d.before a0 Z = true) (ws : List Jvm.Cond) (x : Addr) (hob : Addr) (hok : ClassId) (mb : Addr) (mk : ClassId) (mv : List Value) (w0 : Int64) (w1 : Int64) (w2 : Int64) (fa : Addr) (fk : ClassId) (fv : Int64) (h0 : Heap) (n0 : Nat) (Z0 : n0 ≤ h0.size) (q0 : Old Z n0 h0) (q1 : Sta Z Z.heap "com/example/evenkeel/evenkeel/sim/LaneLayouts" "TALLEST" "I" (.int (25 : Int32))) (q2 : Exa Z h0 x "com/example/evenkeel/evenkeel/sim/LaneLayouts") (q3 : Fld Z h0 x "com/example/evenkeel/evenkeel/sim/LaneLayouts" "holds" "[J" (.ref hob)) (q4 : Fld Z h0 x "com/example/evenkeel/evenkeel/sim/LaneLayouts" "base" "I" (.int (0 : Int32))) (q5 : Fld Z h0 x "com/example/evenkeel/evenkeel/sim/LaneLayouts" "first" "I" (.int (2 : Int32))) (q6 : Fld Z h0 x "com/example/evenkeel/evenkeel/sim/LaneLayouts" "end" "I" (.int (3 : Int32))) (q7 : Fld Z h0 x "com/example/evenkeel/evenkeel/sim/LaneLayouts" "memories" "[[Lcom/example/evenkeel/evenkeel/sim/LaneLayouts$Memory;" (.ref mb)) (q8 : Arv Z h0 hob hok .long (64 : Int32) ([(.long w0), (.long w1), (.long w2)]) (.long (0 : Int64))) (q9 : Arv Z h0 mb mk (.array (.object "com/example/evenkeel/evenkeel/sim/LaneLayouts$Memory")) (1 : Int32) mv .null) (q10 : Arv Z h0 fa fk .long (1 : Int32) ([(.long fv)]) (.long (0 : Int64))) (q11 : @LE.le Nat instLENat n0 fa) (q12 : ¬ @Eq Nat fa hob) (q13 : ¬ @Eq Nat fa x) (q14 : ¬ @Eq Nat fa mb) :
    MetFree l (⟨"com/example/evenkeel/evenkeel/sim/LaneLayouts", "layOut", "([J)J"⟩ : MethodName) (head1 (Jvm.Cond.code (⟨"com/example/evenkeel/evenkeel/sim/LaneLayouts", "layOut", "([J)J"⟩ : MethodName) prog_130_method_7_code 8 (some .long) :: ws) ({ frames := 4, cells := 0, slots := 0, locals := 90 } : Room)) (fun a_ U_ => a_ = #[(.ref x), (.ref fa)] ∧ Z.Warmed39 U_.vm ∧ U_.heap = h0) (fun _ _ _ _ _ => True) (fun _ U_ o_ V_ => ∃ v_ L_, o_ = .returned v_ ∧ Qlo2 Z x hob hok mb mk mv w0 w1 w2 fa fk fv h0 n0 v_ V_.heap L_ ∧ FrameEnd U_ o_ V_ L_ ({ frames := 4, cells := 0, slots := 0, locals := 90 } : Room).cells ({ frames := 4, cells := 0, slots := 0, locals := 90 } : Room).slots) := by
  refine MetFree.of_bodySF (plainFor_of_name pn_2) hisR ?_
  intro p e s m args below meth c s₁ Bd hml0 hP hK
  obtain ⟨rfl, hZ, hh⟩ := hP
  have hx := Bd.exec
  have hby := Bd.bytes
  have hml : c.maxLocals = 8 := hml0
  have hown : s.vm.findClass "com/example/evenkeel/evenkeel/sim/LaneLayouts" = some m.cls := findClass_of_methodNamed Bd.named
  have hnm := (name_of_methodNamed Bd.named Bd.method).1
  have X0 : Stand p l e ({ frames := 4, cells := 0, slots := 0, locals := 90 } : Room) s m #[(.ref x), (.ref fa)] below meth c s₁ [] 0 0 := Stand.of_body Bd
  have e0 : s₁.heap = h0 := by rw [← hh, Bd.state]; rfl
  have N0 := Fr.nil n0
  have zo := q0.1
  have lt462 := own_alt q2.lt
  have lt463 := own_alt q3.lt
  have lt464 := own_alt q4.lt
  have lt465 := own_alt q5.lt
  have lt466 := own_alt q6.lt
  have lt467 := own_alt q7.lt
  have lt468 := own_alt q8.lt
  have lt469 := own_alt q9.lt
  have lt470 := own_alt q10.lt
  refine Gl.go (A := s₁.setTop (entryFrame m #[(.ref x), (.ref fa)] 8)) (P := fun o_ U_ => ∃ v_ L_, o_ = .returned v_ ∧ Qlo2 Z x hob hok mb mk mv w0 w1 w2 fa fk fv h0 n0 v_ U_.heap L_ ∧ FrameEnd s o_ U_ L_ ({ frames := 4, cells := 0, slots := 0, locals := 90 } : Room).cells ({ frames := 4, cells := 0, slots := 0, locals := 90 } : Room).slots) (fun t_ k_ => castTop (ef_lo2 m x fa) k_) ?_
  show Gl p.tables e below _ (s₁.setTop (mkF m 0 #[.val (.ref x), .val (.ref fa), .unset, .unset, .unset, .unset, .unset, .unset] []))
  refine Gl.go (fun _ hr => zXS_aloadN X0.here hx rfl (hb hby d12_0) rfl rfl hr) ?_
  have zz471 : n0 ≤ h0.size := by omega
  refine gVirtualN Gl.cl (y := (⟨"com/example/evenkeel/evenkeel/sim/LaneLayouts", "size", "()I"⟩ : MethodName)) (z := (⟨"com/example/evenkeel/evenkeel/sim/LaneLayouts", "size", "()I"⟩ : MethodName)) (b := x) (argsL := []) (rest := []) (mc := 0) (ms := 0) X0 hx hZ hown (mvT hZ (hw _ (List.mem_of_getElem? (i := 73) rfl))) (mvT hZ (hw _ (List.mem_of_getElem? (i := 41) rfl))) (notFace_of_selects (args := #[]) (mvT hZ (hw _ (List.mem_of_getElem? (i := 43) rfl)))) (mvT hZ (hw _ (List.mem_of_getElem? (i := 43) rfl))) (mvT hZ (hw _ (List.mem_of_getElem? (i := 42) rfl))) (by decide) q2 (backOf (W := 0) (sz2 l Z a0 hw [] x h0 n0 zz471 q6 q5) hZ (hw _ (List.mem_of_getElem? (i := 44) rfl)) (hw _ (List.mem_of_getElem? (i := 3) rfl)) (by decide) (by decide)) rfl (by rw [hml]; rfl) (lenOf pd_4 rfl) rfl (by show 2 * 0 + _ ≤ _; exact Nat.le_of_eq rfl) (hb hby d12_1) rfl e0 (by decide) (by decide) ?_
  intro v471 T471 Lc471 hQ471 X471
  obtain ⟨rfl, Nq471, e471⟩ := hQ471
  have N471 := Fr.app N0 Nq471
  refine Gl.go (fun _ hr => zXS_ifYes X471.here hx rfl (pc0 := 4) (pc' := 17) rfl (hb hby d12_4) rfl (XT.i0_ne_t (by decide)) (by decide) (by decide) (zXS_aloadN X471.here hx rfl (hb hby d12_17) rfl rfl hr)) ?_
  obtain ⟨c472, a472, q472, s472, m472, H472, U472⟩ := id q10
  refine gLen Gl.cl X471 hx hZ e471 a472 s472 m472 rfl rfl (hb hby d12_18) ?_
  refine Gl.go (fun _ hr => zXS_bipush X471.here hx rfl (hb hby d12_19) (zXS_icmpNo X471.here hx rfl (hb hby d12_21) rfl (XT.ii_gt_f (by decide)) (zXS_iconst X471.here hx rfl (hb hby d12_24) (zXS_goto X471.here hx rfl (pc0 := 25) (pc' := 29) rfl (hb hby d12_25) (by decide) (by decide) (zXS_istoreN X471.here hx rfl (hb hby d12_29) rfl (l' := #[.val (.ref x), .val (.ref fa), .val (.int (1 : Int32)), .unset, .unset, .unset, .unset, .unset]) rfl (zXS_aloadN X471.here hx rfl (hb hby d12_30) rfl rfl hr)))))) ?_
  refine gGetF (host := "") Gl.cl X471 hx hZ hown (Or.inl (hw _ (List.mem_of_getElem? (i := 29) rfl))) Via.refl e471 q6 rfl rfl (hb hby d12_31) ?_
  intro T473 X473 e473
  refine Gl.go (fun _ hr => zXS_iconst X473.here hx rfl (hb hby d12_34) (zXS_isub X473.here hx rfl (hb hby d12_35) rfl (zXS_istoreN X473.here hx rfl (hb hby d12_36) rfl (l' := #[.val (.ref x), .val (.ref fa), .val (.int (1 : Int32)), .val (.int (2 : Int32)), .unset, .unset, .unset, .unset]) rfl (zXS_aloadN X473.here hx rfl (hb hby d12_37) rfl rfl hr)))) ?_
  refine gGetF (host := "") Gl.cl X473 hx hZ hown (Or.inl (hw _ (List.mem_of_getElem? (i := 38) rfl))) Via.refl e473 q5 rfl rfl (hb hby d12_38) ?_
  intro T474 X474 e474
  refine Gl.go (fun _ hr => zXS_istore X474.here hx rfl (hb hby d12_41) rfl (l' := #[.val (.ref x), .val (.ref fa), .val (.int (1 : Int32)), .val (.int (2 : Int32)), .val (.int (2 : Int32)), .unset, .unset, .unset]) rfl (zXS_iconst X474.here hx rfl (hb hby d12_43) (zXS_istore X474.here hx rfl (hb hby d12_44) rfl (l' := #[.val (.ref x), .val (.ref fa), .val (.int (1 : Int32)), .val (.int (2 : Int32)), .val (.int (2 : Int32)), .val (.int (1 : Int32)), .unset, .unset]) rfl (zXS_iload X474.here hx rfl (hb hby d12_46) rfl (zXS_iloadN X474.here hx rfl (hb hby d12_48) rfl (zXS_icmpYes X474.here hx rfl (pc0 := 49) (pc' := 138) rfl (hb hby d12_49) rfl (XT.ii_ge_t (by decide)) (by decide) (by decide) (zXS_aloadN X474.here hx rfl (hb hby d12_138) rfl rfl (zXS_iconst X474.here hx rfl (hb hby d12_139) hr)))))))) ?_
  obtain ⟨c475, a475, q475, s475, m475, H475, U475⟩ := id q10
  have i475 := inb_of s475 (j := (0 : Int32)) ⟨(by decide), (by decide)⟩
  refine g_laload Gl.cl X474 hx hZ e474 a475 i475 (v := (.long fv)) (H475.at i475 rfl) rfl rfl (hb hby d12_140) ?_
  refine Gl.go (fun _ hr => zXT_lstore X474.here hx rfl (hb hby d12_141) rfl (l' := #[.val (.ref x), .val (.ref fa), .val (.int (1 : Int32)), .val (.int (2 : Int32)), .val (.int (2 : Int32)), .val (.int (1 : Int32)), .val (.long fv), .second]) rfl (zXS_aloadN X474.here hx rfl (hb hby d12_143) rfl rfl (zXS_aloadN X474.here hx rfl (hb hby d12_144) rfl rfl hr))) ?_
  refine gGetF (host := "") Gl.cl X474 hx hZ hown (Or.inl (hw _ (List.mem_of_getElem? (i := 11) rfl))) Via.refl e474 q3 rfl rfl (hb hby d12_145) ?_
  intro T476 X476 e476
  refine Gl.go (fun _ hr => zXS_iloadN X476.here hx rfl (hb hby d12_148) rfl (zXS_aloadN X476.here hx rfl (hb hby d12_149) rfl rfl hr)) ?_
  refine gGetF (host := "") Gl.cl X476 hx hZ hown (Or.inl (hw _ (List.mem_of_getElem? (i := 31) rfl))) Via.refl e476 q4 rfl rfl (hb hby d12_150) ?_
  intro T477 X477 e477
  refine Gl.go (fun _ hr => zXS_isub X477.here hx rfl (hb hby d12_153) rfl hr) ?_
  obtain ⟨c478, a478, q478, s478, m478, H478, U478⟩ := id q8
  have i478 := inb_of s478 (j := (2 : Int32)) ⟨(by decide), (by decide)⟩
  refine g_laload Gl.cl X477 hx hZ e477 a478 i478 (v := (.long w2)) (H478.at i478 rfl) rfl rfl (hb hby d12_154) ?_
  have zz479 : n0 ≤ h0.size := by omega
  refine gStaticN Gl.cl (y := (⟨"com/example/evenkeel/evenkeel/sim/LaneLayouts", "take", "([JJ)V"⟩ : MethodName)) (argsL := [(.ref fa), (.long w2)]) (rest := []) (mc := 0) (ms := 0) X477 hx hZ hown (mvT hZ (hw _ (List.mem_of_getElem? (i := 74) rfl))) (mvT hZ (hw _ (List.mem_of_getElem? (i := 75) rfl))) (mvT hZ (hw _ (List.mem_of_getElem? (i := 3) rfl))) (mvT hZ (hw _ (List.mem_of_getElem? (i := 76) rfl))) (by decide) (backOf (W := 0) (tak l Z a0 hw [] fa fk fv w2 h0 n0 zz479 (by omega) q10) hZ (hw _ (List.mem_of_getElem? (i := 76) rfl)) (hw _ (List.mem_of_getElem? (i := 3) rfl)) (by decide) (by decide)) rfl (by rw [hml]; rfl) (lenOf pd_5 rfl) rfl (by show 2 * 0 + _ ≤ _; exact Nat.le_of_eq rfl) (hb hby d12_155) rfl e477 (by decide) (by decide) ?_
  intro v479 T479 Lc479 hQ479 X479
  obtain ⟨rfl, Nq479, K479, f479_0⟩ := hQ479
  have z480 : h0.size ≤ T479.heap.size := K479.1
  have N479 := Fr.app N471 Nq479
  have lt481 := own_alt f479_0.lt
  refine Gl.go (fun _ hr => zXS_aloadN X479.here hx rfl (hb hby d12_158) rfl rfl hr) ?_
  have zz482 : n0 ≤ T479.heap.size := by omega
  refine gStaticN Gl.cl (y := (⟨"java/util/Arrays", "sort", "([J)V"⟩ : MethodName)) (argsL := [(.ref fa)]) (rest := []) (mc := 0) (ms := 0) X479 hx hZ hown (mvT hZ (hw _ (List.mem_of_getElem? (i := 59) rfl))) (mvT hZ (hw _ (List.mem_of_getElem? (i := 60) rfl))) (mvT hZ (hw _ (List.mem_of_getElem? (i := 61) rfl))) (mvT hZ (hw _ (List.mem_of_getElem? (i := 62) rfl))) (by decide) (backOf (W := 0) (srt l Z a0 hw [] fa fk (fv + w2) T479.heap n0 zz482 f479_0) hZ (hw _ (List.mem_of_getElem? (i := 62) rfl)) (hw _ (List.mem_of_getElem? (i := 61) rfl)) (by decide) (by decide)) rfl (by rw [hml]; rfl) (lenOf pd_3 rfl) rfl (by show 2 * 0 + _ ≤ _; exact Nat.le_of_eq rfl) (hb hby d12_159) rfl (rfl : T479.heap = T479.heap) (by decide) (by decide) ?_
  intro v482 T482 Lc482 hQ482 X482
  obtain ⟨rfl, Nq482, e482⟩ := hQ482
  have N482 := Fr.app N479 Nq482
  refine Gl.go (fun _ hr => zXT_lload X482.here hx rfl (hb hby d12_162) rfl hr) ?_
  obtain ⟨fs, hr, hrun, hended, hW, hsame⟩ := X482.leave (v := some (.long fv)) (fun h => by rw [Bd.returns] at h; cases h)
  refine ⟨_, _, retOut X482 hx Bd.returns rfl (Or.inr (Or.inl ⟨rfl, rfl, _, rfl⟩)) (hb hby d12_164) hr, hrun, hended, _, _, rfl, ?_, ⟨⟨_, rfl⟩, hW, hsame.mono (by decide) (by decide)⟩⟩
  show Qlo2 Z x hob hok mb mk mv w0 w1 w2 fa fk fv h0 n0 _ T482.heap _
  rw [e482]
  exact ⟨rfl, N482, ((Keep.refl h0 [fa]).trans K479 (allS (P := fun x_ => x_ ∈ ([fa] : List Addr) ∨ h0.size ≤ x_) (Or.inl (by simp)) all0)), f479_0⟩
def Qst3 (Z : State) (x : Addr) (hob : Addr) (hok : ClassId) (mb : Addr) (mk : ClassId) (mv : List Value) (w0 : Int64) (w1 : Int64) (w2 : Int64) (fa : Addr) (fk : ClassId) (fv : Int64) (h0 : Heap) (n0 : Nat) (v : Option Value) (h : Heap) (L : List Loc) : Prop := ∃ (r : Addr), ∃ (rk : ClassId), v = some (.ref r) ∧ Fr n0 L ∧ Keep h0 h [] ∧ (Arv Z h r rk .long (0 : Int32) ([]) (.long (0 : Int64))) ∧ (@LE.le Nat instLENat h0.size r)
theorem ef_st3 (m : MethodId) (x0 : Addr) (x1 : Addr) : entryFrame m #[(.ref x0), (.ref x1)] 5 = mkF m 0 #[.val (.ref x0), .val (.ref x1), .unset, .unset, .unset] [] := by first | (simp [entryFrame, mkF, argsToLocals, Value.category]; done) | rfl
set_option maxRecDepth 65536 in
set_option maxHeartbeats 40000000 in
theorem st3 (l : Launch) (Z : State) (a0 : Array Value) (hw : ∀ d ∈ tables_1, d.before a0 Z = true) (ws : List Jvm.Cond) (x : Addr) (hob : Addr) (hok : ClassId) (mb : Addr) (mk : ClassId) (mv : List Value) (w0 : Int64) (w1 : Int64) (w2 : Int64) (fa : Addr) (fk : ClassId) (fv : Int64) (h0 : Heap) (n0 : Nat) (Z0 : n0 ≤ h0.size) (q0 : Exa Z h0 x "com/example/evenkeel/evenkeel/sim/LaneLayouts") (q1 : Fld Z h0 x "com/example/evenkeel/evenkeel/sim/LaneLayouts" "holds" "[J" (.ref hob)) (q2 : Fld Z h0 x "com/example/evenkeel/evenkeel/sim/LaneLayouts" "base" "I" (.int (0 : Int32))) (q3 : Fld Z h0 x "com/example/evenkeel/evenkeel/sim/LaneLayouts" "first" "I" (.int (3 : Int32))) (q4 : Fld Z h0 x "com/example/evenkeel/evenkeel/sim/LaneLayouts" "end" "I" (.int (3 : Int32))) (q5 : Fld Z h0 x "com/example/evenkeel/evenkeel/sim/LaneLayouts" "memories" "[[Lcom/example/evenkeel/evenkeel/sim/LaneLayouts$Memory;" (.ref mb)) (q6 : Arv Z h0 hob hok .long (64 : Int32) ([(.long w0), (.long w1), (.long w2)]) (.long (0 : Int64))) (q7 : Arv Z h0 mb mk (.array (.object "com/example/evenkeel/evenkeel/sim/LaneLayouts$Memory")) (1 : Int32) mv .null) (q8 : Arv Z h0 fa fk .long (1 : Int32) ([(.long fv)]) (.long (0 : Int64))) (q9 : Exa Z h0 fa "[J") :
    MetFree l (⟨"com/example/evenkeel/evenkeel/sim/LaneLayouts", "starts", "([J)[J"⟩ : MethodName) (head1 (Jvm.Cond.code (⟨"com/example/evenkeel/evenkeel/sim/LaneLayouts", "starts", "([J)[J"⟩ : MethodName) prog_130_method_6_code 5 (some (.array .long)) :: ws) ({ frames := 4, cells := 2, slots := 1, locals := 90 } : Room)) (fun a_ U_ => a_ = #[(.ref x), (.ref fa)] ∧ Z.Warmed39 U_.vm ∧ U_.heap = h0) (fun _ _ _ _ _ => True) (fun _ U_ o_ V_ => ∃ v_ L_, o_ = .returned v_ ∧ Qst3 Z x hob hok mb mk mv w0 w1 w2 fa fk fv h0 n0 v_ V_.heap L_ ∧ FrameEnd U_ o_ V_ L_ ({ frames := 4, cells := 2, slots := 1, locals := 90 } : Room).cells ({ frames := 4, cells := 2, slots := 1, locals := 90 } : Room).slots) := by
  refine MetFree.of_bodySF (plainFor_of_name pn_2) hisR ?_
  intro p e s m args below meth c s₁ Bd hml0 hP hK
  obtain ⟨rfl, hZ, hh⟩ := hP
  have hx := Bd.exec
  have hby := Bd.bytes
  have hml : c.maxLocals = 5 := hml0
  have hown : s.vm.findClass "com/example/evenkeel/evenkeel/sim/LaneLayouts" = some m.cls := findClass_of_methodNamed Bd.named
  have hnm := (name_of_methodNamed Bd.named Bd.method).1
  have X0 : Stand p l e ({ frames := 4, cells := 2, slots := 1, locals := 90 } : Room) s m #[(.ref x), (.ref fa)] below meth c s₁ [] 0 0 := Stand.of_body Bd
  have e0 : s₁.heap = h0 := by rw [← hh, Bd.state]; rfl
  have N0 := Fr.nil n0
  have lt483 := own_alt q0.lt
  have lt484 := own_alt q1.lt
  have lt485 := own_alt q2.lt
  have lt486 := own_alt q3.lt
  have lt487 := own_alt q4.lt
  have lt488 := own_alt q5.lt
  have lt489 := own_alt q6.lt
  have lt490 := own_alt q7.lt
  have lt491 := own_alt q8.lt
  have lt492 := own_alt q9.lt
  refine Gl.go (A := s₁.setTop (entryFrame m #[(.ref x), (.ref fa)] 5)) (P := fun o_ U_ => ∃ v_ L_, o_ = .returned v_ ∧ Qst3 Z x hob hok mb mk mv w0 w1 w2 fa fk fv h0 n0 v_ U_.heap L_ ∧ FrameEnd s o_ U_ L_ ({ frames := 4, cells := 2, slots := 1, locals := 90 } : Room).cells ({ frames := 4, cells := 2, slots := 1, locals := 90 } : Room).slots) (fun t_ k_ => castTop (ef_st3 m x fa) k_) ?_
  show Gl p.tables e below _ (s₁.setTop (mkF m 0 #[.val (.ref x), .val (.ref fa), .unset, .unset, .unset] []))
  refine Gl.go (fun _ hr => zXS_aloadN X0.here hx rfl (hb hby d6_0) rfl rfl hr) ?_
  obtain ⟨T493, h493, X493, e493, E493, V493, A493, st493⟩ := cloneH X0 hx hZ hown (hw _ (List.mem_of_getElem? (i := 50) rfl)) (hw _ (List.mem_of_getElem? (i := 51) rfl)) (hw _ (List.mem_of_getElem? (i := 55) rfl)) (hw _ (List.mem_of_getElem? (i := 53) rfl)) (hw _ (List.mem_of_getElem? (i := 54) rfl)) (hw _ (List.mem_of_getElem? (i := 56) rfl)) e0 (Arv.arh q8) q9 (g := (mkF m 1 #[.val (.ref x), .val (.ref fa), .unset, .unset, .unset] [(.ref fa)])) rfl (by rw [hml]; rfl) rfl (hb hby d6_1) (by decide) (W := 0) (cap := 1) (by show 2 * 0 + _ ≤ _; exact Nat.le_of_eq rfl) (by decide) (by decide) (by decide) (by decide)
  obtain ⟨b493, g493⟩ : ∃ z, z = h0.size := ⟨_, rfl⟩
  rw [← g493] at V493 A493 st493
  have z494 : h0.size ≤ h493.size := E493.1
  have lt493 := own_alt A493.lt
  have Va493 : Arv Z h493 b493 fk .long (1 : Int32) [(.long fv)] (.long (0 : Int64)) := V493
  refine Gl.go st493 ?_
  show Gl p.tables e below _ (T493.setTop (mkF m 4 #[.val (.ref x), .val (.ref fa), .unset, .unset, .unset] [(.ref b493)]))
  refine gCast Gl.cl X493 hx hZ hown (hw _ (List.mem_of_getElem? (i := 57) rfl)) e493 (Ins.self A493) rfl rfl (hb hby d6_4) ?_
  intro T495 X495 e495
  refine Gl.go (fun _ hr => zXS_astoreN X495.here hx rfl (hb hby d6_7) rfl rfl (l' := #[.val (.ref x), .val (.ref fa), .val (.ref b493), .unset, .unset]) rfl (zXS_aloadN X495.here hx rfl (hb hby d6_8) rfl rfl hr)) ?_
  have zz496 : n0 ≤ h493.size := by omega
  refine gStaticN Gl.cl (y := (⟨"java/util/Arrays", "sort", "([J)V"⟩ : MethodName)) (argsL := [(.ref b493)]) (rest := []) (mc := 0) (ms := 0) X495 hx hZ hown (mvT hZ (hw _ (List.mem_of_getElem? (i := 59) rfl))) (mvT hZ (hw _ (List.mem_of_getElem? (i := 60) rfl))) (mvT hZ (hw _ (List.mem_of_getElem? (i := 61) rfl))) (mvT hZ (hw _ (List.mem_of_getElem? (i := 62) rfl))) (by decide) (backOf (W := 0) (srt l Z a0 hw [] b493 fk fv h493 n0 zz496 Va493) hZ (hw _ (List.mem_of_getElem? (i := 62) rfl)) (hw _ (List.mem_of_getElem? (i := 61) rfl)) (by decide) (by decide)) rfl (by rw [hml]; rfl) (lenOf pd_3 rfl) rfl (by show 2 * 0 + _ ≤ _; exact Nat.le_of_eq rfl) (hb hby d6_9) rfl e495 (by decide) (by decide) ?_
  intro v496 T496 Lc496 hQ496 X496
  obtain ⟨rfl, Nq496, e496⟩ := hQ496
  have N496 := Fr.app N0 Nq496
  refine Gl.go (fun _ hr => zXS_aloadN X496.here hx rfl (hb hby d6_12) rfl rfl hr) ?_
  have Fc498 := (q4.ext E493)
  have Fc499 := (q3.ext E493)
  have zz497 : n0 ≤ h493.size := by omega
  have Ec500 := (q0.ext E493)
  refine gVirtualN Gl.cl (y := (⟨"com/example/evenkeel/evenkeel/sim/LaneLayouts", "size", "()I"⟩ : MethodName)) (z := (⟨"com/example/evenkeel/evenkeel/sim/LaneLayouts", "size", "()I"⟩ : MethodName)) (b := x) (argsL := []) (rest := []) (mc := 0) (ms := 0) X496 hx hZ hown (mvT hZ (hw _ (List.mem_of_getElem? (i := 73) rfl))) (mvT hZ (hw _ (List.mem_of_getElem? (i := 41) rfl))) (notFace_of_selects (args := #[]) (mvT hZ (hw _ (List.mem_of_getElem? (i := 43) rfl)))) (mvT hZ (hw _ (List.mem_of_getElem? (i := 43) rfl))) (mvT hZ (hw _ (List.mem_of_getElem? (i := 42) rfl))) (by decide) Ec500 (backOf (W := 0) (sz3 l Z a0 hw [] x h493 n0 zz497 Fc498 Fc499) hZ (hw _ (List.mem_of_getElem? (i := 44) rfl)) (hw _ (List.mem_of_getElem? (i := 3) rfl)) (by decide) (by decide)) rfl (by rw [hml]; rfl) (lenOf pd_4 rfl) rfl (by show 2 * 0 + _ ≤ _; exact Nat.le_of_eq rfl) (hb hby d6_13) rfl e496 (by decide) (by decide) ?_
  intro v497 T497 Lc497 hQ497 X497
  obtain ⟨rfl, Nq497, e497⟩ := hQ497
  have N497 := Fr.app N496 Nq497
  refine gNewPE Gl.cl X497 hx hZ (hw _ (List.mem_of_getElem? (i := 10) rfl)) e497 rfl (hb hby d6_16) rfl (by decide) (cap := 0) (by decide) (by decide) (by decide) (by decide) (ad := "[J") (by decide) ?_
  intro T501 h501 b501 k501 g501 X501 e501 E501 A501 B501
  have z502 : h493.size ≤ h501.size := E501.1
  have lt501 := own_alt A501.lt
  have V501 : Arv Z h501 b501 k501 .long (0 : Int32) [] (.long (0 : Int64)) := (Arv.new A501 (by decide)).pad (pad_rep [] (.long (0 : Int64)) 0)
  refine Gl.go (fun _ hr => zXS_astoreN X501.here hx rfl (hb hby d6_18) rfl rfl (l' := #[.val (.ref x), .val (.ref fa), .val (.ref b493), .val (.ref b501), .unset]) rfl (zXS_aloadN X501.here hx rfl (hb hby d6_19) rfl rfl hr)) ?_
  have Fc503 := (Fc499.ext E501)
  refine gGetF (host := "") Gl.cl X501 hx hZ hown (Or.inl (hw _ (List.mem_of_getElem? (i := 38) rfl))) Via.refl e501 Fc503 rfl rfl (hb hby d6_20) ?_
  intro T504 X504 e504
  refine Gl.go (fun _ hr => zXS_istore X504.here hx rfl (hb hby d6_23) rfl (l' := #[.val (.ref x), .val (.ref fa), .val (.ref b493), .val (.ref b501), .val (.int (3 : Int32))]) rfl (zXS_iload X504.here hx rfl (hb hby d6_25) rfl (zXS_aloadN X504.here hx rfl (hb hby d6_27) rfl rfl hr))) ?_
  have Fc505 := (Fc498.ext E501)
  refine gGetF (host := "") Gl.cl X504 hx hZ hown (Or.inl (hw _ (List.mem_of_getElem? (i := 29) rfl))) Via.refl e504 Fc505 rfl rfl (hb hby d6_28) ?_
  intro T506 X506 e506
  refine Gl.go (fun _ hr => zXS_icmpYes X506.here hx rfl (pc0 := 31) (pc' := 68) rfl (hb hby d6_31) rfl (XT.ii_ge_t (by decide)) (by decide) (by decide) (zXS_aloadN X506.here hx rfl (hb hby d6_68) rfl rfl hr)) ?_
  obtain ⟨fs, hr, hrun, hended, hW, hsame⟩ := X506.leave (v := some (.ref b501)) (fun h => by rw [Bd.returns] at h; cases h)
  refine ⟨_, _, retOut X506 hx Bd.returns rfl (Or.inr (Or.inr (Or.inr (Or.inr ⟨rfl, rfl, rfl⟩)))) (hb hby d6_69) hr, hrun, hended, _, _, rfl, ?_, ⟨⟨_, rfl⟩, hW, hsame.mono (by decide) (by decide)⟩⟩
  show Qst3 Z x hob hok mb mk mv w0 w1 w2 fa fk fv h0 n0 _ T506.heap _
  rw [e506]
  exact ⟨b501, k501, rfl, N497, (((Keep.refl h0 []).ext E493).ext E501), V501, (by omega)⟩
def Qlawrm (Z : State) (i0 : Int64) (i1 : Int64) (i2 : Int64) (i3 : Int64) (i4 : Int32) (h0 : Heap) (n0 : Nat) (v : Option Value) (h : Heap) (L : List Loc) : Prop := v = some (.int (1 : Int32)) ∧ Fr n0 L ∧ Keep h0 h []
theorem pn_3 : plainName "com/example/evenkeel/evenkeel/sim/LaneLayoutsDropFirstPinLaw" = true := by first | (simp [plainName, overriddenIn]; done) | decide +kernel
theorem ef_lawrm (m : MethodId) (x0 : Int64) (x1 : Int64) (x2 : Int64) (x3 : Int64) (x4 : Int32) : entryFrame m #[(.long x0), (.long x1), (.long x2), (.long x3), (.int x4)] maxLocals = mkF m 0 #[.val (.long x0), .second, .val (.long x1), .second, .val (.long x2), .second, .val (.long x3), .second, .val (.int x4), .unset, .unset, .unset, .unset, .unset, .unset, .unset, .unset, .unset, .unset, .unset, .unset] [] := by first | (simp [entryFrame, mkF, argsToLocals, Value.category, maxLocals]; done) | rfl
theorem pd_7 : parseMethodDescriptor "()V" = some ⟨[], none⟩ := by decide +kernel
theorem pd_8 : parseMethodDescriptor "(J)V" = some ⟨[.long], none⟩ := by decide +kernel
theorem pd_9 : parseMethodDescriptor "([J)[J" = some ⟨[(.array .long)], some (.array .long)⟩ := by decide +kernel
theorem pd_10 : parseMethodDescriptor "([J)J" = some ⟨[(.array .long)], some .long⟩ := by decide +kernel
set_option maxRecDepth 65536 in
set_option maxHeartbeats 40000000 in
theorem lawrm (l : Launch) (Z : State) (a0 : Array Value) (hw : ∀ d ∈ tables_1, d.before a0 Z = true) (ws : List Jvm.Cond) (i0 : Int64) (i1 : Int64) (i2 : Int64) (i3 : Int64) (i4 : Int32) (h0 : Heap) (n0 : Nat) (Z0 : n0 ≤ h0.size) (q0 : Old Z n0 h0) (q1 : Sta Z Z.heap "com/example/evenkeel/evenkeel/sim/LaneLayouts" "TALLEST" "I" (.int (25 : Int32))) :
    MetFree l x (head1 (Jvm.Cond.code x code maxLocals ret :: ws) room_1) (fun a_ U_ => a_ = #[(.long i0), (.long i1), (.long i2), (.long i3), (.int i4)] ∧ Z.Warmed39 U_.vm ∧ U_.heap = h0) (fun _ _ _ _ _ => True) (fun _ U_ o_ V_ => ∃ v_ L_, o_ = .returned v_ ∧ Qlawrm Z i0 i1 i2 i3 i4 h0 n0 v_ V_.heap L_ ∧ FrameEnd U_ o_ V_ L_ 80 768) := by
  refine MetFree.of_bodySF (plainFor_of_name pn_3) hisR ?_
  intro p e s m args below meth c s₁ Bd hml0 hP hK
  obtain ⟨rfl, hZ, hh⟩ := hP
  have hx := Bd.exec
  have hby := Bd.bytes
  have hml : c.maxLocals = 21 := hml0
  have hown : s.vm.findClass "com/example/evenkeel/evenkeel/sim/LaneLayoutsDropFirstPinLaw" = some m.cls := findClass_of_methodNamed Bd.named
  have hnm := (name_of_methodNamed Bd.named Bd.method).1
  have X0 : Stand p l e room_1 s m #[(.long i0), (.long i1), (.long i2), (.long i3), (.int i4)] below meth c s₁ [] 0 0 := Stand.of_body Bd
  have e0 : s₁.heap = h0 := by rw [← hh, Bd.state]; rfl
  have N0 := Fr.nil n0
  have zo := q0.1
  refine Gl.go (A := s₁.setTop (entryFrame m #[(.long i0), (.long i1), (.long i2), (.long i3), (.int i4)] maxLocals)) (P := fun o_ U_ => ∃ v_ L_, o_ = .returned v_ ∧ Qlawrm Z i0 i1 i2 i3 i4 h0 n0 v_ U_.heap L_ ∧ FrameEnd s o_ U_ L_ 80 768) (fun t_ k_ => castTop (ef_lawrm m i0 i1 i2 i3 i4) k_) ?_
  show Gl p.tables e below _ (s₁.setTop (mkF m 0 #[.val (.long i0), .second, .val (.long i1), .second, .val (.long i2), .second, .val (.long i3), .second, .val (.int i4), .unset, .unset, .unset, .unset, .unset, .unset, .unset, .unset, .unset, .unset, .unset, .unset] []))
  refine Gl.go (fun _ hr => zXS_iload X0.here hx rfl (hb hby at_0) rfl hr) ?_
  refine Gl.go (X0.ldcInt hx hown (mvT hZ (hw _ (List.mem_of_getElem? (i := 0) rfl))) rfl (hb hby at_2)) ?_
  refine Gl.go (fun _ hr => zXS_iand X0.here hx rfl (hb hby at_4) rfl (zXS_iconst X0.here hx rfl (hb hby at_5) (zRW_iremM X0 hx rfl (hb hby at_6) rfl (by decide) hr))) ?_
  show Gl p.tables e below _ (s₁.setTop (mkF m 7 #[.val (.long i0), .second, .val (.long i1), .second, .val (.long i2), .second, .val (.long i3), .second, .val (.int i4), .unset, .unset, .unset, .unset, .unset, .unset, .unset, .unset, .unset, .unset, .unset, .unset] [(.int ((i4 &&& (2147483647 : Int32)) % (4 : Int32)))]))
  obtain ⟨dp, hq_dp⟩ : ∃ q, q = ((i4 &&& (2147483647 : Int32)) % (4 : Int32)) := ⟨_, rfl⟩
  rw [← hq_dp]
  have hdp : dp = 0 ∨ dp = 1 ∨ dp = 2 ∨ dp = 3 := by rw [hq_dp]; exact own_rem4 _
  clear hq_dp
  rcases hdp with hq | hq | hq | hq
  · subst hq
    show Gl p.tables e below _ (s₁.setTop (mkF m 7 #[.val (.long i0), .second, .val (.long i1), .second, .val (.long i2), .second, .val (.long i3), .second, .val (.int i4), .unset, .unset, .unset, .unset, .unset, .unset, .unset, .unset, .unset, .unset, .unset, .unset] [(.int (0 : Int32))]))
    refine Gl.go (fun _ hr => zXS_istore X0.here hx rfl (hb hby at_7) rfl (l' := #[.val (.long i0), .second, .val (.long i1), .second, .val (.long i2), .second, .val (.long i3), .second, .val (.int i4), .val (.int (0 : Int32)), .unset, .unset, .unset, .unset, .unset, .unset, .unset, .unset, .unset, .unset, .unset]) rfl hr) ?_
    refine gNew Gl.cl X0 hx hZ hown (hw _ (List.mem_of_getElem? (i := 1) rfl)) (hw _ (List.mem_of_getElem? (i := 2) rfl)) (hw _ (List.mem_of_getElem? (i := 3) rfl)) e0 rfl (hb hby at_9) (by decide) (by decide) ?_
    intro T507 h507 b507 g507 X507 e507 E507 A507 D507
    have z508 : h0.size ≤ h507.size := E507.1
    have lt507 := own_alt A507.lt
    have F507_holds : Fld Z h507 b507 "com/example/evenkeel/evenkeel/sim/LaneLayouts" "holds" "[J" .null := D507 (Or.inl (hw _ (List.mem_of_getElem? (i := 12) rfl))) (ty := (.array .long)) (by decide)
    have F507_memories : Fld Z h507 b507 "com/example/evenkeel/evenkeel/sim/LaneLayouts" "memories" "[[Lcom/example/evenkeel/evenkeel/sim/LaneLayouts$Memory;" .null := D507 (Or.inl (hw _ (List.mem_of_getElem? (i := 17) rfl))) (ty := (.array (.array (.object "com/example/evenkeel/evenkeel/sim/LaneLayouts$Memory")))) (by decide)
    have F507_apart : Fld Z h507 b507 "com/example/evenkeel/evenkeel/sim/LaneLayouts" "apart" "[[J" .null := D507 (Or.inr (hw _ (List.mem_of_getElem? (i := 23) rfl))) (ty := (.array (.array .long))) (by decide)
    have F507_end : Fld Z h507 b507 "com/example/evenkeel/evenkeel/sim/LaneLayouts" "end" "I" (.int (0 : Int32)) := D507 (Or.inl (hw _ (List.mem_of_getElem? (i := 30) rfl))) (ty := .int) (by decide)
    have F507_base : Fld Z h507 b507 "com/example/evenkeel/evenkeel/sim/LaneLayouts" "base" "I" (.int (0 : Int32)) := D507 (Or.inl (hw _ (List.mem_of_getElem? (i := 32) rfl))) (ty := .int) (by decide)
    have F507_first : Fld Z h507 b507 "com/example/evenkeel/evenkeel/sim/LaneLayouts" "first" "I" (.int (0 : Int32)) := D507 (Or.inl (hw _ (List.mem_of_getElem? (i := 39) rfl))) (ty := .int) (by decide)
    refine Gl.go (fun _ hr => zXS_dup X507.here hx rfl (hb hby at_12) rfl rfl hr) ?_
    have Oc510 := (q0.ext E507)
    have zz509 : n0 ≤ h507.size := by omega
    refine gSpecialN Gl.cl (y := (⟨"com/example/evenkeel/evenkeel/sim/LaneLayouts", "<init>", "()V"⟩ : MethodName)) (b := b507) (argsL := []) (rest := [(.ref b507)]) (mc := 30) (ms := 323) X507 hx hZ hown rfl (mvT hZ (hw _ (List.mem_of_getElem? (i := 4) rfl))) (mvT hZ (hw _ (List.mem_of_getElem? (i := 5) rfl))) (mvT hZ (hw _ (List.mem_of_getElem? (i := 6) rfl))) (by decide) (backOf (W := 1) (ini l Z a0 hw [] b507 h507 n0 zz509 Oc510 q1 (by omega) A507 F507_holds F507_base F507_first F507_end F507_memories F507_apart) hZ (hw _ (List.mem_of_getElem? (i := 6) rfl)) (hw _ (List.mem_of_getElem? (i := 3) rfl)) (by decide) (by decide)) rfl (by rw [hml]; rfl) (lenOf pd_7 rfl) rfl (by show 2 * 0 + _ ≤ _; exact Nat.le_of_eq rfl) (hb hby at_13) rfl e507 (by decide) (by decide) ?_
    intro v509 T509 Lc509 hQ509 X509
    obtain ⟨hob_509, hok_509, mb_509, mk_509, mv_509, rfl, Nq509, K509, f509_0, f509_1, f509_2, f509_3, f509_4, f509_5, f509_6, f509_7, f509_8, f509_9, f509_10, f509_11, f509_12⟩ := hQ509
    have z511 : h507.size ≤ T509.heap.size := K509.1
    have N509 := Fr.app N0 Nq509
    have lt512 := own_alt f509_0.lt
    have lt513 := own_alt f509_1.lt
    have lt514 := own_alt f509_2.lt
    have lt515 := own_alt f509_3.lt
    have lt516 := own_alt f509_4.lt
    have lt517 := own_alt f509_5.lt
    have lt518 := own_alt f509_6.lt
    have lt519 := own_alt f509_7.lt
    refine Gl.go (fun _ hr => zXS_astore X509.here hx rfl (hb hby at_16) rfl rfl (l' := #[.val (.long i0), .second, .val (.long i1), .second, .val (.long i2), .second, .val (.long i3), .second, .val (.int i4), .val (.int (0 : Int32)), .val (.ref b507), .unset, .unset, .unset, .unset, .unset, .unset, .unset, .unset, .unset, .unset]) rfl (zXS_aload X509.here hx rfl (hb hby at_18) rfl rfl (zXT_lloadN X509.here hx rfl (hb hby at_20) rfl hr))) ?_
    have zz520 : n0 ≤ T509.heap.size := by omega
    refine gVirtualN Gl.cl (y := (⟨"com/example/evenkeel/evenkeel/sim/LaneLayouts", "append", "(J)V"⟩ : MethodName)) (z := (⟨"com/example/evenkeel/evenkeel/sim/LaneLayouts", "append", "(J)V"⟩ : MethodName)) (b := b507) (argsL := [(.long i0)]) (rest := []) (mc := 0) (ms := 0) X509 hx hZ hown (mvT hZ (hw _ (List.mem_of_getElem? (i := 24) rfl))) (mvT hZ (hw _ (List.mem_of_getElem? (i := 25) rfl))) (notFace_of_selects (args := #[]) (mvT hZ (hw _ (List.mem_of_getElem? (i := 27) rfl)))) (mvT hZ (hw _ (List.mem_of_getElem? (i := 27) rfl))) (mvT hZ (hw _ (List.mem_of_getElem? (i := 26) rfl))) (by decide) f509_0 (backOf (W := 0) (ap0 l Z a0 hw [] b507 hob_509 hok_509 mb_509 mk_509 mv_509 (0 : Int64) (0 : Int64) (0 : Int64) i0 T509.heap n0 zz520 f509_0 f509_1 f509_2 f509_3 f509_4 f509_5 f509_6 f509_7 (by omega) (by omega) (by omega) (by omega) (by omega)) hZ (hw _ (List.mem_of_getElem? (i := 28) rfl)) (hw _ (List.mem_of_getElem? (i := 3) rfl)) (by decide) (by decide)) rfl (by rw [hml]; rfl) (lenOf pd_8 rfl) rfl (by show 2 * 0 + _ ≤ _; exact Nat.le_of_eq rfl) (hb hby at_21) rfl (rfl : T509.heap = T509.heap) (by decide) (by decide) ?_
    intro v520 T520 Lc520 hQ520 X520
    obtain ⟨rfl, Nq520, K520, f520_0, f520_1, f520_2, f520_3, f520_4, f520_5, f520_6, f520_7⟩ := hQ520
    have z521 : T509.heap.size ≤ T520.heap.size := K520.1
    have N520 := Fr.app N509 Nq520
    have lt522 := own_alt f520_0.lt
    have lt523 := own_alt f520_1.lt
    have lt524 := own_alt f520_2.lt
    have lt525 := own_alt f520_3.lt
    have lt526 := own_alt f520_4.lt
    have lt527 := own_alt f520_5.lt
    have lt528 := own_alt f520_6.lt
    have lt529 := own_alt f520_7.lt
    refine Gl.go (fun _ hr => zXS_aload X520.here hx rfl (hb hby at_24) rfl rfl (zXT_lloadN X520.here hx rfl (hb hby at_26) rfl hr)) ?_
    have zz530 : n0 ≤ T520.heap.size := by omega
    refine gVirtualN Gl.cl (y := (⟨"com/example/evenkeel/evenkeel/sim/LaneLayouts", "append", "(J)V"⟩ : MethodName)) (z := (⟨"com/example/evenkeel/evenkeel/sim/LaneLayouts", "append", "(J)V"⟩ : MethodName)) (b := b507) (argsL := [(.long i1)]) (rest := []) (mc := 0) (ms := 0) X520 hx hZ hown (mvT hZ (hw _ (List.mem_of_getElem? (i := 24) rfl))) (mvT hZ (hw _ (List.mem_of_getElem? (i := 25) rfl))) (notFace_of_selects (args := #[]) (mvT hZ (hw _ (List.mem_of_getElem? (i := 27) rfl)))) (mvT hZ (hw _ (List.mem_of_getElem? (i := 27) rfl))) (mvT hZ (hw _ (List.mem_of_getElem? (i := 26) rfl))) (by decide) f520_0 (backOf (W := 0) (ap1 l Z a0 hw [] b507 hob_509 hok_509 mb_509 mk_509 mv_509 i0 (0 : Int64) (0 : Int64) i1 T520.heap n0 zz530 f520_0 f520_1 f520_2 f520_3 f520_4 f520_5 f520_6 f520_7 (by omega) (by omega) (by omega) (by omega) (by omega)) hZ (hw _ (List.mem_of_getElem? (i := 28) rfl)) (hw _ (List.mem_of_getElem? (i := 3) rfl)) (by decide) (by decide)) rfl (by rw [hml]; rfl) (lenOf pd_8 rfl) rfl (by show 2 * 0 + _ ≤ _; exact Nat.le_of_eq rfl) (hb hby at_27) rfl (rfl : T520.heap = T520.heap) (by decide) (by decide) ?_
    intro v530 T530 Lc530 hQ530 X530
    obtain ⟨rfl, Nq530, K530, f530_0, f530_1, f530_2, f530_3, f530_4, f530_5, f530_6, f530_7⟩ := hQ530
    have z531 : T520.heap.size ≤ T530.heap.size := K530.1
    have N530 := Fr.app N520 Nq530
    have lt532 := own_alt f530_0.lt
    have lt533 := own_alt f530_1.lt
    have lt534 := own_alt f530_2.lt
    have lt535 := own_alt f530_3.lt
    have lt536 := own_alt f530_4.lt
    have lt537 := own_alt f530_5.lt
    have lt538 := own_alt f530_6.lt
    have lt539 := own_alt f530_7.lt
    refine Gl.go (fun _ hr => zXS_aload X530.here hx rfl (hb hby at_30) rfl rfl (zXT_lload X530.here hx rfl (hb hby at_32) rfl hr)) ?_
    have zz540 : n0 ≤ T530.heap.size := by omega
    refine gVirtualN Gl.cl (y := (⟨"com/example/evenkeel/evenkeel/sim/LaneLayouts", "append", "(J)V"⟩ : MethodName)) (z := (⟨"com/example/evenkeel/evenkeel/sim/LaneLayouts", "append", "(J)V"⟩ : MethodName)) (b := b507) (argsL := [(.long i2)]) (rest := []) (mc := 0) (ms := 0) X530 hx hZ hown (mvT hZ (hw _ (List.mem_of_getElem? (i := 24) rfl))) (mvT hZ (hw _ (List.mem_of_getElem? (i := 25) rfl))) (notFace_of_selects (args := #[]) (mvT hZ (hw _ (List.mem_of_getElem? (i := 27) rfl)))) (mvT hZ (hw _ (List.mem_of_getElem? (i := 27) rfl))) (mvT hZ (hw _ (List.mem_of_getElem? (i := 26) rfl))) (by decide) f530_0 (backOf (W := 0) (ap2 l Z a0 hw [] b507 hob_509 hok_509 mb_509 mk_509 mv_509 i0 i1 (0 : Int64) i2 T530.heap n0 zz540 f530_0 f530_1 f530_2 f530_3 f530_4 f530_5 f530_6 f530_7 (by omega) (by omega) (by omega) (by omega) (by omega)) hZ (hw _ (List.mem_of_getElem? (i := 28) rfl)) (hw _ (List.mem_of_getElem? (i := 3) rfl)) (by decide) (by decide)) rfl (by rw [hml]; rfl) (lenOf pd_8 rfl) rfl (by show 2 * 0 + _ ≤ _; exact Nat.le_of_eq rfl) (hb hby at_34) rfl (rfl : T530.heap = T530.heap) (by decide) (by decide) ?_
    intro v540 T540 Lc540 hQ540 X540
    obtain ⟨rfl, Nq540, K540, f540_0, f540_1, f540_2, f540_3, f540_4, f540_5, f540_6, f540_7⟩ := hQ540
    have z541 : T530.heap.size ≤ T540.heap.size := K540.1
    have N540 := Fr.app N530 Nq540
    have lt542 := own_alt f540_0.lt
    have lt543 := own_alt f540_1.lt
    have lt544 := own_alt f540_2.lt
    have lt545 := own_alt f540_3.lt
    have lt546 := own_alt f540_4.lt
    have lt547 := own_alt f540_5.lt
    have lt548 := own_alt f540_6.lt
    have lt549 := own_alt f540_7.lt
    refine Gl.go (fun _ hr => zXS_iload X540.here hx rfl (hb hby at_37) rfl (zXS_iconst X540.here hx rfl (hb hby at_39) (zXS_icmpYes X540.here hx rfl (pc0 := 40) (pc' := 48) rfl (hb hby at_40) rfl (XT.ii_lt_t (by decide)) (by decide) (by decide) (zXS_iload X540.here hx rfl (hb hby at_48) rfl (zXS_iconst X540.here hx rfl (hb hby at_50) (zXS_icmpYes X540.here hx rfl (pc0 := 51) (pc' := 59) rfl (hb hby at_51) rfl (XT.ii_lt_t (by decide)) (by decide) (by decide) (zXS_iload X540.here hx rfl (hb hby at_59) rfl (zXS_iconst X540.here hx rfl (hb hby at_61) (zXS_icmpYes X540.here hx rfl (pc0 := 62) (pc' := 70) rfl (hb hby at_62) rfl (XT.ii_lt_t (by decide)) (by decide) (by decide) (zXS_iconst X540.here hx rfl (hb hby at_70) hr)))))))))) ?_
    refine Gl.go (fun _ hr => zXS_iload X540.here hx rfl (hb hby at_71) rfl (zXS_isub X540.here hx rfl (hb hby at_73) rfl (zXS_istore X540.here hx rfl (hb hby at_74) rfl (l' := #[.val (.long i0), .second, .val (.long i1), .second, .val (.long i2), .second, .val (.long i3), .second, .val (.int i4), .val (.int (0 : Int32)), .val (.ref b507), .val (.int (3 : Int32)), .unset, .unset, .unset, .unset, .unset, .unset, .unset, .unset, .unset]) rfl (zXS_aload X540.here hx rfl (hb hby at_76) rfl rfl hr)))) ?_
    have zz550 : n0 ≤ T540.heap.size := by omega
    refine gVirtualN Gl.cl (y := (⟨"com/example/evenkeel/evenkeel/sim/LaneLayouts", "size", "()I"⟩ : MethodName)) (z := (⟨"com/example/evenkeel/evenkeel/sim/LaneLayouts", "size", "()I"⟩ : MethodName)) (b := b507) (argsL := []) (rest := []) (mc := 0) (ms := 0) X540 hx hZ hown (mvT hZ (hw _ (List.mem_of_getElem? (i := 40) rfl))) (mvT hZ (hw _ (List.mem_of_getElem? (i := 41) rfl))) (notFace_of_selects (args := #[]) (mvT hZ (hw _ (List.mem_of_getElem? (i := 43) rfl)))) (mvT hZ (hw _ (List.mem_of_getElem? (i := 43) rfl))) (mvT hZ (hw _ (List.mem_of_getElem? (i := 42) rfl))) (by decide) f540_0 (backOf (W := 0) (sz0 l Z a0 hw [] b507 T540.heap n0 zz550 f540_4 f540_3) hZ (hw _ (List.mem_of_getElem? (i := 44) rfl)) (hw _ (List.mem_of_getElem? (i := 3) rfl)) (by decide) (by decide)) rfl (by rw [hml]; rfl) (lenOf pd_4 rfl) rfl (by show 2 * 0 + _ ≤ _; exact Nat.le_of_eq rfl) (hb hby at_78) rfl (rfl : T540.heap = T540.heap) (by decide) (by decide) ?_
    intro v550 T550 Lc550 hQ550 X550
    obtain ⟨rfl, Nq550, e550⟩ := hQ550
    have N550 := Fr.app N540 Nq550
    refine Gl.go (fun _ hr => zXS_iload X550.here hx rfl (hb hby at_81) rfl (zXS_icmpYes X550.here hx rfl (pc0 := 83) (pc' := 88) rfl (hb hby at_83) rfl (XT.ii_eq_t (by decide)) (by decide) (by decide) (zXS_iload X550.here hx rfl (hb hby at_88) rfl (zXS_ifNo X550.here hx rfl (hb hby at_90) rfl (XT.i0_ne_f (by decide)) (zXT_lloadN X550.here hx rfl (hb hby at_93) rfl (zXS_goto X550.here hx rfl (pc0 := 94) (pc' := 109) rfl (hb hby at_94) (by decide) (by decide) (zXT_lstore X550.here hx rfl (hb hby at_109) rfl (l' := #[.val (.long i0), .second, .val (.long i1), .second, .val (.long i2), .second, .val (.long i3), .second, .val (.int i4), .val (.int (0 : Int32)), .val (.ref b507), .val (.int (3 : Int32)), .val (.long i0), .second, .unset, .unset, .unset, .unset, .unset, .unset, .unset]) rfl (zXS_iload X550.here hx rfl (hb hby at_111) rfl (zXS_ifNo X550.here hx rfl (hb hby at_113) rfl (XT.i0_ne_f (by decide)) (zXT_lloadN X550.here hx rfl (hb hby at_116) rfl hr)))))))))) ?_
    refine Gl.go (fun _ hr => zXS_goto X550.here hx rfl (pc0 := 117) (pc' := 122) rfl (hb hby at_117) (by decide) (by decide) (zXT_lstore X550.here hx rfl (hb hby at_122) rfl (l' := #[.val (.long i0), .second, .val (.long i1), .second, .val (.long i2), .second, .val (.long i3), .second, .val (.int i4), .val (.int (0 : Int32)), .val (.ref b507), .val (.int (3 : Int32)), .val (.long i0), .second, .val (.long i1), .second, .unset, .unset, .unset, .unset, .unset]) rfl (zXS_iconst X550.here hx rfl (hb hby at_124) hr))) ?_
    refine gNewPE Gl.cl X550 hx hZ (hw _ (List.mem_of_getElem? (i := 10) rfl)) e550 rfl (hb hby at_125) rfl (by decide) (cap := 1) (by decide) (by decide) (by decide) (by decide) (ad := "[J") (by decide) ?_
    intro T551 h551 b551 k551 g551 X551 e551 E551 A551 B551
    have z552 : T540.heap.size ≤ h551.size := E551.1
    have lt551 := own_alt A551.lt
    have V551 : Arv Z h551 b551 k551 .long (1 : Int32) [(.long (0 : Int64))] (.long (0 : Int64)) := (Arv.new A551 (by decide)).pad (pad_rep [] (.long (0 : Int64)) 1)
    refine Gl.go (fun _ hr => zXS_dup X551.here hx rfl (hb hby at_127) rfl rfl (zXS_iconst X551.here hx rfl (hb hby at_128) (zXT_lload X551.here hx rfl (hb hby at_129) rfl hr))) ?_
    obtain ⟨c553, a553, q553, s553, m553, H553, U553⟩ := id V551
    refine gstJ Gl.cl X551 hx hZ e551 a553 (j := (0 : Int32)) (inb_of s553 ⟨(by decide), (by decide)⟩) rfl rfl (hb hby at_131) ?_
    intro T553 h553 X553 e553 W553
    have z554 : h551.size ≤ h553.size := (Keep.of_wr W553).1
    have V553 : Arv Z h553 b551 k551 .long (1 : Int32) [(.long i3)] (.long (0 : Int64)) := Arv.set a553 q553 s553 m553 H553 U553 rfl W553 0 rfl (Nat.le_of_ble_eq_true rfl)
    have N553 := Fr.snoc X553 N550 (own_ale (by omega))
    refine Gl.go (fun _ hr => zXS_astore X553.here hx rfl (hb hby at_132) rfl rfl (l' := #[.val (.long i0), .second, .val (.long i1), .second, .val (.long i2), .second, .val (.long i3), .second, .val (.int i4), .val (.int (0 : Int32)), .val (.ref b507), .val (.int (3 : Int32)), .val (.long i0), .second, .val (.long i1), .second, .val (.ref b551), .unset, .unset, .unset, .unset]) rfl (zXS_aload X553.here hx rfl (hb hby at_134) rfl rfl (zXS_aload X553.here hx rfl (hb hby at_136) rfl rfl hr))) ?_
    have Ec556 := ((f540_0.ext E551).wr W553)
    have Fc557 := ((f540_1.ext E551).other W553 (Or.inl (own_ane (by omega))))
    have Fc558 := ((f540_2.ext E551).other W553 (Or.inl (own_ane (by omega))))
    have Fc559 := ((f540_3.ext E551).other W553 (Or.inl (own_ane (by omega))))
    have Fc560 := ((f540_4.ext E551).other W553 (Or.inl (own_ane (by omega))))
    have Fc561 := ((f540_5.ext E551).other W553 (Or.inl (own_ane (by omega))))
    have Vc562 := ((f540_6.ext E551).other W553 (own_ane (by omega)))
    have Vc563 := ((f540_7.ext E551).other W553 (own_ane (by omega)))
    have Ec564 := (B551.wr W553)
    have zz555 : n0 ≤ h553.size := by omega
    refine gVirtualN Gl.cl (y := (⟨"com/example/evenkeel/evenkeel/sim/LaneLayouts", "starts", "([J)[J"⟩ : MethodName)) (z := (⟨"com/example/evenkeel/evenkeel/sim/LaneLayouts", "starts", "([J)[J"⟩ : MethodName)) (b := b507) (argsL := [(.ref b551)]) (rest := []) (mc := 2) (ms := 4) X553 hx hZ hown (mvT hZ (hw _ (List.mem_of_getElem? (i := 45) rfl))) (mvT hZ (hw _ (List.mem_of_getElem? (i := 46) rfl))) (notFace_of_selects (args := #[]) (mvT hZ (hw _ (List.mem_of_getElem? (i := 48) rfl)))) (mvT hZ (hw _ (List.mem_of_getElem? (i := 48) rfl))) (mvT hZ (hw _ (List.mem_of_getElem? (i := 47) rfl))) (by decide) Ec556 (backOf (W := 0) (st0 l Z a0 hw [] b507 hob_509 hok_509 mb_509 mk_509 mv_509 i0 i1 i2 b551 k551 i3 h553 n0 zz555 Ec556 Fc557 Fc558 Fc559 Fc560 Fc561 Vc562 Vc563 V553 Ec564) hZ (hw _ (List.mem_of_getElem? (i := 49) rfl)) (hw _ (List.mem_of_getElem? (i := 3) rfl)) (by decide) (by decide)) rfl (by rw [hml]; rfl) (lenOf pd_9 rfl) rfl (by show 2 * 0 + _ ≤ _; exact Nat.le_of_eq rfl) (hb hby at_138) rfl e553 (by decide) (by decide) ?_
    intro v555 T555 Lc555 hQ555 X555
    obtain ⟨r_555, rk_555, rfl, Nq555, K555, f555_0, f555_1⟩ := hQ555
    have z565 : h553.size ≤ T555.heap.size := K555.1
    have N555 := Fr.app N553 Nq555
    have lt566 := own_alt f555_0.lt
    refine Gl.go (fun _ hr => zXS_astore X555.here hx rfl (hb hby at_141) rfl rfl (l' := #[.val (.long i0), .second, .val (.long i1), .second, .val (.long i2), .second, .val (.long i3), .second, .val (.int i4), .val (.int (0 : Int32)), .val (.ref b507), .val (.int (3 : Int32)), .val (.long i0), .second, .val (.long i1), .second, .val (.ref b551), .val (.ref r_555), .unset, .unset, .unset]) rfl (zXS_aload X555.here hx rfl (hb hby at_143) rfl rfl hr)) ?_
    obtain ⟨c567, a567, q567, s567, m567, H567, U567⟩ := id f555_0
    refine gLen Gl.cl X555 hx hZ (rfl : T555.heap = T555.heap) a567 s567 m567 rfl rfl (hb hby at_145) ?_
    refine Gl.go (fun _ hr => zXS_iload X555.here hx rfl (hb hby at_146) rfl (zXS_icmpYes X555.here hx rfl (pc0 := 148) (pc' := 153) rfl (hb hby at_148) rfl (XT.ii_eq_t (by decide)) (by decide) (by decide) (zXS_aload X555.here hx rfl (hb hby at_153) rfl rfl (zXS_iconst X555.here hx rfl (hb hby at_155) hr)))) ?_
    have Vc568 := (V553.keep K555 nin0)
    obtain ⟨c569, a569, q569, s569, m569, H569, U569⟩ := id Vc568
    have i569 := inb_of s569 (j := (0 : Int32)) ⟨(by decide), (by decide)⟩
    refine g_laload Gl.cl X555 hx hZ (rfl : T555.heap = T555.heap) a569 i569 (v := (.long i3)) (H569.at i569 rfl) rfl rfl (hb hby at_156) ?_
    refine Gl.go (fun _ hr => zXT_lload X555.here hx rfl (hb hby at_157) rfl (zXT_lcmp X555.here hx rfl (hb hby at_159) rfl hr)) ?_
    show Gl p.tables e below _ (T555.setTop (mkF m 160 #[.val (.long i0), .second, .val (.long i1), .second, .val (.long i2), .second, .val (.long i3), .second, .val (.int i4), .val (.int (0 : Int32)), .val (.ref b507), .val (.int (3 : Int32)), .val (.long i0), .second, .val (.long i1), .second, .val (.ref b551), .val (.ref r_555), .unset, .unset, .unset] [(.int (XT.cmpL i3 i3))]))
    refine Gl.go (fun _ hr => zXS_ifYes X555.here hx rfl (pc0 := 160) (pc' := 165) rfl (hb hby at_160) rfl (XT.ll_eq_t rfl) (by decide) (by decide) (zXS_iload X555.here hx rfl (hb hby at_165) rfl (zXS_iconst X555.here hx rfl (hb hby at_167) (zXS_icmpNo X555.here hx rfl (hb hby at_168) rfl (XT.ii_lt_f (by decide)) (zXS_aload X555.here hx rfl (hb hby at_171) rfl rfl (zXS_iconst X555.here hx rfl (hb hby at_173) hr)))))) ?_
    obtain ⟨c570, a570, q570, s570, m570, H570, U570⟩ := id f555_0
    have i570 := inb_of s570 (j := (0 : Int32)) ⟨(by decide), (by decide)⟩
    refine g_laload Gl.cl X555 hx hZ (rfl : T555.heap = T555.heap) a570 i570 (v := (.long i3)) (H570.at i570 rfl) rfl rfl (hb hby at_174) ?_
    refine Gl.go (fun _ hr => zXT_lload X555.here hx rfl (hb hby at_175) rfl (zXT_lcmp X555.here hx rfl (hb hby at_177) rfl hr)) ?_
    refine Gl.go (fun _ hr => zXS_ifYes X555.here hx rfl (pc0 := 178) (pc' := 183) rfl (hb hby at_178) rfl (XT.ll_eq_t rfl) (by decide) (by decide) (zXS_iload X555.here hx rfl (hb hby at_183) rfl (zXS_iconst X555.here hx rfl (hb hby at_185) (zXS_icmpNo X555.here hx rfl (hb hby at_186) rfl (XT.ii_lt_f (by decide)) (zXS_aload X555.here hx rfl (hb hby at_189) rfl rfl (zXS_iconst X555.here hx rfl (hb hby at_191) hr)))))) ?_
    obtain ⟨c571, a571, q571, s571, m571, H571, U571⟩ := id f555_0
    have i571 := inb_of s571 (j := (1 : Int32)) ⟨(by decide), (by decide)⟩
    refine g_laload Gl.cl X555 hx hZ (rfl : T555.heap = T555.heap) a571 i571 (v := (.long (i3 + i0))) (H571.at i571 rfl) rfl rfl (hb hby at_192) ?_
    refine Gl.go (fun _ hr => zXT_lload X555.here hx rfl (hb hby at_193) rfl (zXT_lload X555.here hx rfl (hb hby at_195) rfl (zXT_ladd X555.here hx rfl (hb hby at_197) rfl (zXT_lcmp X555.here hx rfl (hb hby at_198) rfl hr)))) ?_
    refine Gl.go (fun _ hr => zXS_ifYes X555.here hx rfl (pc0 := 199) (pc' := 204) rfl (hb hby at_199) rfl (XT.ll_eq_t rfl) (by decide) (by decide) (zXS_iload X555.here hx rfl (hb hby at_204) rfl (zXS_iconst X555.here hx rfl (hb hby at_206) (zXS_icmpNo X555.here hx rfl (hb hby at_207) rfl (XT.ii_lt_f (by decide)) (zXS_aload X555.here hx rfl (hb hby at_210) rfl rfl (zXS_iconst X555.here hx rfl (hb hby at_212) hr)))))) ?_
    obtain ⟨c572, a572, q572, s572, m572, H572, U572⟩ := id f555_0
    have i572 := inb_of s572 (j := (2 : Int32)) ⟨(by decide), (by decide)⟩
    refine g_laload Gl.cl X555 hx hZ (rfl : T555.heap = T555.heap) a572 i572 (v := (.long ((i3 + i0) + i1))) (H572.at i572 rfl) rfl rfl (hb hby at_213) ?_
    refine Gl.go (fun _ hr => zXT_lload X555.here hx rfl (hb hby at_214) rfl (zXT_lload X555.here hx rfl (hb hby at_216) rfl (zXT_ladd X555.here hx rfl (hb hby at_218) rfl (zXT_lload X555.here hx rfl (hb hby at_219) rfl (zXT_ladd X555.here hx rfl (hb hby at_221) rfl (zXT_lcmp X555.here hx rfl (hb hby at_222) rfl hr)))))) ?_
    refine Gl.go (fun _ hr => zXS_ifYes X555.here hx rfl (pc0 := 223) (pc' := 228) rfl (hb hby at_223) rfl (XT.ll_eq_t rfl) (by decide) (by decide) (zXS_iload X555.here hx rfl (hb hby at_228) rfl (zXS_iconst X555.here hx rfl (hb hby at_230) (zXS_icmpNo X555.here hx rfl (hb hby at_231) rfl (XT.ii_lt_f (by decide)) (zXS_iconst X555.here hx rfl (hb hby at_234) hr))))) ?_
    refine gNewPE Gl.cl X555 hx hZ (hw _ (List.mem_of_getElem? (i := 10) rfl)) (rfl : T555.heap = T555.heap) rfl (hb hby at_235) rfl (by decide) (cap := 1) (by decide) (by decide) (by decide) (by decide) (ad := "[J") (by decide) ?_
    intro T573 h573 b573 k573 g573 X573 e573 E573 A573 B573
    have z574 : T555.heap.size ≤ h573.size := E573.1
    have lt573 := own_alt A573.lt
    have V573 : Arv Z h573 b573 k573 .long (1 : Int32) [(.long (0 : Int64))] (.long (0 : Int64)) := (Arv.new A573 (by decide)).pad (pad_rep [] (.long (0 : Int64)) 1)
    refine Gl.go (fun _ hr => zXS_dup X573.here hx rfl (hb hby at_237) rfl rfl (zXS_iconst X573.here hx rfl (hb hby at_238) (zXT_lload X573.here hx rfl (hb hby at_239) rfl hr))) ?_
    obtain ⟨c575, a575, q575, s575, m575, H575, U575⟩ := id V573
    refine gstJ Gl.cl X573 hx hZ e573 a575 (j := (0 : Int32)) (inb_of s575 ⟨(by decide), (by decide)⟩) rfl rfl (hb hby at_241) ?_
    intro T575 h575 X575 e575 W575
    have z576 : h573.size ≤ h575.size := (Keep.of_wr W575).1
    have V575 : Arv Z h575 b573 k573 .long (1 : Int32) [(.long i3)] (.long (0 : Int64)) := Arv.set a575 q575 s575 m575 H575 U575 rfl W575 0 rfl (Nat.le_of_ble_eq_true rfl)
    have N575 := Fr.snoc X575 N555 (own_ale (by omega))
    refine Gl.go (fun _ hr => zXS_astore X575.here hx rfl (hb hby at_242) rfl rfl (l' := #[.val (.long i0), .second, .val (.long i1), .second, .val (.long i2), .second, .val (.long i3), .second, .val (.int i4), .val (.int (0 : Int32)), .val (.ref b507), .val (.int (3 : Int32)), .val (.long i0), .second, .val (.long i1), .second, .val (.ref b551), .val (.ref r_555), .val (.ref b573), .unset, .unset]) rfl (zXS_aload X575.here hx rfl (hb hby at_244) rfl rfl (zXS_aload X575.here hx rfl (hb hby at_246) rfl rfl hr))) ?_
    have Oc578 := (((((((((Oc510.keep K509 (allS (own_ale (by omega)) all0)).keep K520 (allS (own_ale (by omega)) (allS (own_ale (by omega)) all0))).keep K530 (allS (own_ale (by omega)) (allS (own_ale (by omega)) all0))).keep K540 (allS (own_ale (by omega)) (allS (own_ale (by omega)) all0))).ext E551).wr W553 (own_ale (by omega))).keep K555 all0).ext E573).wr W575 (own_ale (by omega)))
    have Ec579 := (((Ec556.keep K555).ext E573).wr W575)
    have Fc580 := (((Fc557.keep K555 nin0).ext E573).other W575 (Or.inl (own_ane (by omega))))
    have Fc581 := (((Fc558.keep K555 nin0).ext E573).other W575 (Or.inl (own_ane (by omega))))
    have Fc582 := (((Fc559.keep K555 nin0).ext E573).other W575 (Or.inl (own_ane (by omega))))
    have Fc583 := (((Fc560.keep K555 nin0).ext E573).other W575 (Or.inl (own_ane (by omega))))
    have Fc584 := (((Fc561.keep K555 nin0).ext E573).other W575 (Or.inl (own_ane (by omega))))
    have Vc585 := (((Vc562.keep K555 nin0).ext E573).other W575 (own_ane (by omega)))
    have Vc586 := (((Vc563.keep K555 nin0).ext E573).other W575 (own_ane (by omega)))
    have zz577 : n0 ≤ h575.size := by omega
    refine gVirtualN Gl.cl (y := (⟨"com/example/evenkeel/evenkeel/sim/LaneLayouts", "layOut", "([J)J"⟩ : MethodName)) (z := (⟨"com/example/evenkeel/evenkeel/sim/LaneLayouts", "layOut", "([J)J"⟩ : MethodName)) (b := b507) (argsL := [(.ref b573)]) (rest := []) (mc := 0) (ms := 0) X575 hx hZ hown (mvT hZ (hw _ (List.mem_of_getElem? (i := 77) rfl))) (mvT hZ (hw _ (List.mem_of_getElem? (i := 78) rfl))) (notFace_of_selects (args := #[]) (mvT hZ (hw _ (List.mem_of_getElem? (i := 80) rfl)))) (mvT hZ (hw _ (List.mem_of_getElem? (i := 80) rfl))) (mvT hZ (hw _ (List.mem_of_getElem? (i := 79) rfl))) (by decide) Ec579 (backOf (W := 0) (lo0 l Z a0 hw [] b507 hob_509 hok_509 mb_509 mk_509 mv_509 i0 i1 i2 b573 k573 i3 h575 n0 zz577 Oc578 q1 Ec579 Fc580 Fc581 Fc582 Fc583 Fc584 Vc585 Vc586 V575 (by omega) (by omega) (by omega) (by omega)) hZ (hw _ (List.mem_of_getElem? (i := 81) rfl)) (hw _ (List.mem_of_getElem? (i := 3) rfl)) (by decide) (by decide)) rfl (by rw [hml]; rfl) (lenOf pd_10 rfl) rfl (by show 2 * 0 + _ ≤ _; exact Nat.le_of_eq rfl) (hb hby at_248) rfl e575 (by decide) (by decide) ?_
    intro v577 T577 Lc577 hQ577 X577
    obtain ⟨rfl, Nq577, K577, f577_0⟩ := hQ577
    have z587 : h575.size ≤ T577.heap.size := K577.1
    have N577 := Fr.app N575 Nq577
    have lt588 := own_alt f577_0.lt
    refine Gl.go (fun _ hr => zXT_lstore X577.here hx rfl (hb hby at_251) rfl (l' := #[.val (.long i0), .second, .val (.long i1), .second, .val (.long i2), .second, .val (.long i3), .second, .val (.int i4), .val (.int (0 : Int32)), .val (.ref b507), .val (.int (3 : Int32)), .val (.long i0), .second, .val (.long i1), .second, .val (.ref b551), .val (.ref r_555), .val (.ref b573), .val (.long ((i3 + i0) + i1)), .second]) rfl (zXT_lload X577.here hx rfl (hb hby at_253) rfl (zXS_aload X577.here hx rfl (hb hby at_255) rfl rfl (zXS_iload X577.here hx rfl (hb hby at_257) rfl (zXS_iconst X577.here hx rfl (hb hby at_259) (zXS_isub X577.here hx rfl (hb hby at_260) rfl hr)))))) ?_
    have Vc589 := (((f555_0.ext E573).other W575 (own_ane (by omega))).keep K577 (ninS (own_ane (by omega)) nin0))
    obtain ⟨c590, a590, q590, s590, m590, H590, U590⟩ := id Vc589
    have i590 := inb_of s590 (j := (2 : Int32)) ⟨(by decide), (by decide)⟩
    refine g_laload Gl.cl X577 hx hZ (rfl : T577.heap = T577.heap) a590 i590 (v := (.long ((i3 + i0) + i1))) (H590.at i590 rfl) rfl rfl (hb hby at_261) ?_
    refine Gl.go (fun _ hr => zXT_lcmp X577.here hx rfl (hb hby at_262) rfl hr) ?_
    refine Gl.go (fun _ hr => zXS_ifYes X577.here hx rfl (pc0 := 263) (pc' := 268) rfl (hb hby at_263) rfl (XT.ll_eq_t rfl) (by decide) (by decide) (zXS_aload X577.here hx rfl (hb hby at_268) rfl rfl (zXS_iconst X577.here hx rfl (hb hby at_270) hr))) ?_
    obtain ⟨c591, a591, q591, s591, m591, H591, U591⟩ := id f577_0
    have i591 := inb_of s591 (j := (0 : Int32)) ⟨(by decide), (by decide)⟩
    refine g_laload Gl.cl X577 hx hZ (rfl : T577.heap = T577.heap) a591 i591 (v := (.long (((i3 + i0) + i1) + i2))) (H591.at i591 rfl) rfl rfl (hb hby at_271) ?_
    refine Gl.go (fun _ hr => zXS_aload X577.here hx rfl (hb hby at_272) rfl rfl (zXS_iload X577.here hx rfl (hb hby at_274) rfl (zXS_iconst X577.here hx rfl (hb hby at_276) (zXS_isub X577.here hx rfl (hb hby at_277) rfl hr)))) ?_
    show Gl p.tables e below _ (T577.setTop (mkF m 278 #[.val (.long i0), .second, .val (.long i1), .second, .val (.long i2), .second, .val (.long i3), .second, .val (.int i4), .val (.int (0 : Int32)), .val (.ref b507), .val (.int (3 : Int32)), .val (.long i0), .second, .val (.long i1), .second, .val (.ref b551), .val (.ref r_555), .val (.ref b573), .val (.long ((i3 + i0) + i1)), .second] [(.int (2 : Int32)), (.ref r_555), (.long (((i3 + i0) + i1) + i2))]))
    obtain ⟨c592, a592, q592, s592, m592, H592, U592⟩ := id Vc589
    have i592 := inb_of s592 (j := (2 : Int32)) ⟨(by decide), (by decide)⟩
    refine g_laload Gl.cl X577 hx hZ (rfl : T577.heap = T577.heap) a592 i592 (v := (.long ((i3 + i0) + i1))) (H592.at i592 rfl) rfl rfl (hb hby at_278) ?_
    refine Gl.go (fun _ hr => zXT_lload X577.here hx rfl (hb hby at_279) rfl (zXT_ladd X577.here hx rfl (hb hby at_281) rfl (zXT_lcmp X577.here hx rfl (hb hby at_282) rfl hr))) ?_
    refine Gl.go (fun _ hr => zXS_ifYes X577.here hx rfl (pc0 := 283) (pc' := 288) rfl (hb hby at_283) rfl (XT.ll_eq_t rfl) (by decide) (by decide) (zXS_iconst X577.here hx rfl (hb hby at_288) hr)) ?_
    obtain ⟨fs, hr, hrun, hended, hW, hsame⟩ := X577.leave (v := some (.int (1 : Int32))) (fun h => by rw [Bd.returns] at h; cases h)
    refine ⟨_, _, retN X577 hx (t := .boolean) Bd.returns (by simp) (hb hby at_289) hr, hrun, hended, _, _, rfl, ?_, ⟨⟨_, rfl⟩, hW, hsame.mono (by decide) (by decide)⟩⟩
    show Qlawrm Z i0 i1 i2 i3 i4 h0 n0 _ T577.heap _
    exact ⟨rfl, N577, ((((((((((((Keep.refl h0 []).ext E507).trans K509 (allS (P := fun x_ => x_ ∈ ([] : List Addr) ∨ h0.size ≤ x_) (Or.inr (own_ale (by omega))) all0)).trans K520 (allS (P := fun x_ => x_ ∈ ([] : List Addr) ∨ h0.size ≤ x_) (Or.inr (own_ale (by omega))) (allS (P := fun x_ => x_ ∈ ([] : List Addr) ∨ h0.size ≤ x_) (Or.inr (own_ale (by omega))) all0))).trans K530 (allS (P := fun x_ => x_ ∈ ([] : List Addr) ∨ h0.size ≤ x_) (Or.inr (own_ale (by omega))) (allS (P := fun x_ => x_ ∈ ([] : List Addr) ∨ h0.size ≤ x_) (Or.inr (own_ale (by omega))) all0))).trans K540 (allS (P := fun x_ => x_ ∈ ([] : List Addr) ∨ h0.size ≤ x_) (Or.inr (own_ale (by omega))) (allS (P := fun x_ => x_ ∈ ([] : List Addr) ∨ h0.size ≤ x_) (Or.inr (own_ale (by omega))) all0))).ext E551).wr W553 (Or.inr (own_ale (by omega)))).trans K555 all0).ext E573).wr W575 (Or.inr (own_ale (by omega)))).trans K577 (allS (P := fun x_ => x_ ∈ ([] : List Addr) ∨ h0.size ≤ x_) (Or.inr (own_ale (by omega))) all0))⟩
  · subst hq
    show Gl p.tables e below _ (s₁.setTop (mkF m 7 #[.val (.long i0), .second, .val (.long i1), .second, .val (.long i2), .second, .val (.long i3), .second, .val (.int i4), .unset, .unset, .unset, .unset, .unset, .unset, .unset, .unset, .unset, .unset, .unset, .unset] [(.int (1 : Int32))]))
    refine Gl.go (fun _ hr => zXS_istore X0.here hx rfl (hb hby at_7) rfl (l' := #[.val (.long i0), .second, .val (.long i1), .second, .val (.long i2), .second, .val (.long i3), .second, .val (.int i4), .val (.int (1 : Int32)), .unset, .unset, .unset, .unset, .unset, .unset, .unset, .unset, .unset, .unset, .unset]) rfl hr) ?_
    refine gNew Gl.cl X0 hx hZ hown (hw _ (List.mem_of_getElem? (i := 1) rfl)) (hw _ (List.mem_of_getElem? (i := 2) rfl)) (hw _ (List.mem_of_getElem? (i := 3) rfl)) e0 rfl (hb hby at_9) (by decide) (by decide) ?_
    intro T593 h593 b593 g593 X593 e593 E593 A593 D593
    have z594 : h0.size ≤ h593.size := E593.1
    have lt593 := own_alt A593.lt
    have F593_holds : Fld Z h593 b593 "com/example/evenkeel/evenkeel/sim/LaneLayouts" "holds" "[J" .null := D593 (Or.inl (hw _ (List.mem_of_getElem? (i := 12) rfl))) (ty := (.array .long)) (by decide)
    have F593_memories : Fld Z h593 b593 "com/example/evenkeel/evenkeel/sim/LaneLayouts" "memories" "[[Lcom/example/evenkeel/evenkeel/sim/LaneLayouts$Memory;" .null := D593 (Or.inl (hw _ (List.mem_of_getElem? (i := 17) rfl))) (ty := (.array (.array (.object "com/example/evenkeel/evenkeel/sim/LaneLayouts$Memory")))) (by decide)
    have F593_apart : Fld Z h593 b593 "com/example/evenkeel/evenkeel/sim/LaneLayouts" "apart" "[[J" .null := D593 (Or.inr (hw _ (List.mem_of_getElem? (i := 23) rfl))) (ty := (.array (.array .long))) (by decide)
    have F593_end : Fld Z h593 b593 "com/example/evenkeel/evenkeel/sim/LaneLayouts" "end" "I" (.int (0 : Int32)) := D593 (Or.inl (hw _ (List.mem_of_getElem? (i := 30) rfl))) (ty := .int) (by decide)
    have F593_base : Fld Z h593 b593 "com/example/evenkeel/evenkeel/sim/LaneLayouts" "base" "I" (.int (0 : Int32)) := D593 (Or.inl (hw _ (List.mem_of_getElem? (i := 32) rfl))) (ty := .int) (by decide)
    have F593_first : Fld Z h593 b593 "com/example/evenkeel/evenkeel/sim/LaneLayouts" "first" "I" (.int (0 : Int32)) := D593 (Or.inl (hw _ (List.mem_of_getElem? (i := 39) rfl))) (ty := .int) (by decide)
    refine Gl.go (fun _ hr => zXS_dup X593.here hx rfl (hb hby at_12) rfl rfl hr) ?_
    have Oc596 := (q0.ext E593)
    have zz595 : n0 ≤ h593.size := by omega
    refine gSpecialN Gl.cl (y := (⟨"com/example/evenkeel/evenkeel/sim/LaneLayouts", "<init>", "()V"⟩ : MethodName)) (b := b593) (argsL := []) (rest := [(.ref b593)]) (mc := 30) (ms := 323) X593 hx hZ hown rfl (mvT hZ (hw _ (List.mem_of_getElem? (i := 4) rfl))) (mvT hZ (hw _ (List.mem_of_getElem? (i := 5) rfl))) (mvT hZ (hw _ (List.mem_of_getElem? (i := 6) rfl))) (by decide) (backOf (W := 1) (ini l Z a0 hw [] b593 h593 n0 zz595 Oc596 q1 (by omega) A593 F593_holds F593_base F593_first F593_end F593_memories F593_apart) hZ (hw _ (List.mem_of_getElem? (i := 6) rfl)) (hw _ (List.mem_of_getElem? (i := 3) rfl)) (by decide) (by decide)) rfl (by rw [hml]; rfl) (lenOf pd_7 rfl) rfl (by show 2 * 0 + _ ≤ _; exact Nat.le_of_eq rfl) (hb hby at_13) rfl e593 (by decide) (by decide) ?_
    intro v595 T595 Lc595 hQ595 X595
    obtain ⟨hob_595, hok_595, mb_595, mk_595, mv_595, rfl, Nq595, K595, f595_0, f595_1, f595_2, f595_3, f595_4, f595_5, f595_6, f595_7, f595_8, f595_9, f595_10, f595_11, f595_12⟩ := hQ595
    have z597 : h593.size ≤ T595.heap.size := K595.1
    have N595 := Fr.app N0 Nq595
    have lt598 := own_alt f595_0.lt
    have lt599 := own_alt f595_1.lt
    have lt600 := own_alt f595_2.lt
    have lt601 := own_alt f595_3.lt
    have lt602 := own_alt f595_4.lt
    have lt603 := own_alt f595_5.lt
    have lt604 := own_alt f595_6.lt
    have lt605 := own_alt f595_7.lt
    refine Gl.go (fun _ hr => zXS_astore X595.here hx rfl (hb hby at_16) rfl rfl (l' := #[.val (.long i0), .second, .val (.long i1), .second, .val (.long i2), .second, .val (.long i3), .second, .val (.int i4), .val (.int (1 : Int32)), .val (.ref b593), .unset, .unset, .unset, .unset, .unset, .unset, .unset, .unset, .unset, .unset]) rfl (zXS_aload X595.here hx rfl (hb hby at_18) rfl rfl (zXT_lloadN X595.here hx rfl (hb hby at_20) rfl hr))) ?_
    have zz606 : n0 ≤ T595.heap.size := by omega
    refine gVirtualN Gl.cl (y := (⟨"com/example/evenkeel/evenkeel/sim/LaneLayouts", "append", "(J)V"⟩ : MethodName)) (z := (⟨"com/example/evenkeel/evenkeel/sim/LaneLayouts", "append", "(J)V"⟩ : MethodName)) (b := b593) (argsL := [(.long i0)]) (rest := []) (mc := 0) (ms := 0) X595 hx hZ hown (mvT hZ (hw _ (List.mem_of_getElem? (i := 24) rfl))) (mvT hZ (hw _ (List.mem_of_getElem? (i := 25) rfl))) (notFace_of_selects (args := #[]) (mvT hZ (hw _ (List.mem_of_getElem? (i := 27) rfl)))) (mvT hZ (hw _ (List.mem_of_getElem? (i := 27) rfl))) (mvT hZ (hw _ (List.mem_of_getElem? (i := 26) rfl))) (by decide) f595_0 (backOf (W := 0) (ap0 l Z a0 hw [] b593 hob_595 hok_595 mb_595 mk_595 mv_595 (0 : Int64) (0 : Int64) (0 : Int64) i0 T595.heap n0 zz606 f595_0 f595_1 f595_2 f595_3 f595_4 f595_5 f595_6 f595_7 (by omega) (by omega) (by omega) (by omega) (by omega)) hZ (hw _ (List.mem_of_getElem? (i := 28) rfl)) (hw _ (List.mem_of_getElem? (i := 3) rfl)) (by decide) (by decide)) rfl (by rw [hml]; rfl) (lenOf pd_8 rfl) rfl (by show 2 * 0 + _ ≤ _; exact Nat.le_of_eq rfl) (hb hby at_21) rfl (rfl : T595.heap = T595.heap) (by decide) (by decide) ?_
    intro v606 T606 Lc606 hQ606 X606
    obtain ⟨rfl, Nq606, K606, f606_0, f606_1, f606_2, f606_3, f606_4, f606_5, f606_6, f606_7⟩ := hQ606
    have z607 : T595.heap.size ≤ T606.heap.size := K606.1
    have N606 := Fr.app N595 Nq606
    have lt608 := own_alt f606_0.lt
    have lt609 := own_alt f606_1.lt
    have lt610 := own_alt f606_2.lt
    have lt611 := own_alt f606_3.lt
    have lt612 := own_alt f606_4.lt
    have lt613 := own_alt f606_5.lt
    have lt614 := own_alt f606_6.lt
    have lt615 := own_alt f606_7.lt
    refine Gl.go (fun _ hr => zXS_aload X606.here hx rfl (hb hby at_24) rfl rfl (zXT_lloadN X606.here hx rfl (hb hby at_26) rfl hr)) ?_
    have zz616 : n0 ≤ T606.heap.size := by omega
    refine gVirtualN Gl.cl (y := (⟨"com/example/evenkeel/evenkeel/sim/LaneLayouts", "append", "(J)V"⟩ : MethodName)) (z := (⟨"com/example/evenkeel/evenkeel/sim/LaneLayouts", "append", "(J)V"⟩ : MethodName)) (b := b593) (argsL := [(.long i1)]) (rest := []) (mc := 0) (ms := 0) X606 hx hZ hown (mvT hZ (hw _ (List.mem_of_getElem? (i := 24) rfl))) (mvT hZ (hw _ (List.mem_of_getElem? (i := 25) rfl))) (notFace_of_selects (args := #[]) (mvT hZ (hw _ (List.mem_of_getElem? (i := 27) rfl)))) (mvT hZ (hw _ (List.mem_of_getElem? (i := 27) rfl))) (mvT hZ (hw _ (List.mem_of_getElem? (i := 26) rfl))) (by decide) f606_0 (backOf (W := 0) (ap1 l Z a0 hw [] b593 hob_595 hok_595 mb_595 mk_595 mv_595 i0 (0 : Int64) (0 : Int64) i1 T606.heap n0 zz616 f606_0 f606_1 f606_2 f606_3 f606_4 f606_5 f606_6 f606_7 (by omega) (by omega) (by omega) (by omega) (by omega)) hZ (hw _ (List.mem_of_getElem? (i := 28) rfl)) (hw _ (List.mem_of_getElem? (i := 3) rfl)) (by decide) (by decide)) rfl (by rw [hml]; rfl) (lenOf pd_8 rfl) rfl (by show 2 * 0 + _ ≤ _; exact Nat.le_of_eq rfl) (hb hby at_27) rfl (rfl : T606.heap = T606.heap) (by decide) (by decide) ?_
    intro v616 T616 Lc616 hQ616 X616
    obtain ⟨rfl, Nq616, K616, f616_0, f616_1, f616_2, f616_3, f616_4, f616_5, f616_6, f616_7⟩ := hQ616
    have z617 : T606.heap.size ≤ T616.heap.size := K616.1
    have N616 := Fr.app N606 Nq616
    have lt618 := own_alt f616_0.lt
    have lt619 := own_alt f616_1.lt
    have lt620 := own_alt f616_2.lt
    have lt621 := own_alt f616_3.lt
    have lt622 := own_alt f616_4.lt
    have lt623 := own_alt f616_5.lt
    have lt624 := own_alt f616_6.lt
    have lt625 := own_alt f616_7.lt
    refine Gl.go (fun _ hr => zXS_aload X616.here hx rfl (hb hby at_30) rfl rfl (zXT_lload X616.here hx rfl (hb hby at_32) rfl hr)) ?_
    have zz626 : n0 ≤ T616.heap.size := by omega
    refine gVirtualN Gl.cl (y := (⟨"com/example/evenkeel/evenkeel/sim/LaneLayouts", "append", "(J)V"⟩ : MethodName)) (z := (⟨"com/example/evenkeel/evenkeel/sim/LaneLayouts", "append", "(J)V"⟩ : MethodName)) (b := b593) (argsL := [(.long i2)]) (rest := []) (mc := 0) (ms := 0) X616 hx hZ hown (mvT hZ (hw _ (List.mem_of_getElem? (i := 24) rfl))) (mvT hZ (hw _ (List.mem_of_getElem? (i := 25) rfl))) (notFace_of_selects (args := #[]) (mvT hZ (hw _ (List.mem_of_getElem? (i := 27) rfl)))) (mvT hZ (hw _ (List.mem_of_getElem? (i := 27) rfl))) (mvT hZ (hw _ (List.mem_of_getElem? (i := 26) rfl))) (by decide) f616_0 (backOf (W := 0) (ap2 l Z a0 hw [] b593 hob_595 hok_595 mb_595 mk_595 mv_595 i0 i1 (0 : Int64) i2 T616.heap n0 zz626 f616_0 f616_1 f616_2 f616_3 f616_4 f616_5 f616_6 f616_7 (by omega) (by omega) (by omega) (by omega) (by omega)) hZ (hw _ (List.mem_of_getElem? (i := 28) rfl)) (hw _ (List.mem_of_getElem? (i := 3) rfl)) (by decide) (by decide)) rfl (by rw [hml]; rfl) (lenOf pd_8 rfl) rfl (by show 2 * 0 + _ ≤ _; exact Nat.le_of_eq rfl) (hb hby at_34) rfl (rfl : T616.heap = T616.heap) (by decide) (by decide) ?_
    intro v626 T626 Lc626 hQ626 X626
    obtain ⟨rfl, Nq626, K626, f626_0, f626_1, f626_2, f626_3, f626_4, f626_5, f626_6, f626_7⟩ := hQ626
    have z627 : T616.heap.size ≤ T626.heap.size := K626.1
    have N626 := Fr.app N616 Nq626
    have lt628 := own_alt f626_0.lt
    have lt629 := own_alt f626_1.lt
    have lt630 := own_alt f626_2.lt
    have lt631 := own_alt f626_3.lt
    have lt632 := own_alt f626_4.lt
    have lt633 := own_alt f626_5.lt
    have lt634 := own_alt f626_6.lt
    have lt635 := own_alt f626_7.lt
    refine Gl.go (fun _ hr => zXS_iload X626.here hx rfl (hb hby at_37) rfl (zXS_iconst X626.here hx rfl (hb hby at_39) (zXS_icmpNo X626.here hx rfl (hb hby at_40) rfl (XT.ii_lt_f (by decide)) (zXS_aload X626.here hx rfl (hb hby at_43) rfl rfl hr)))) ?_
    have zz636 : n0 ≤ T626.heap.size := by omega
    refine gVirtualN Gl.cl (y := (⟨"com/example/evenkeel/evenkeel/sim/LaneLayouts", "dropFirst", "()V"⟩ : MethodName)) (z := (⟨"com/example/evenkeel/evenkeel/sim/LaneLayouts", "dropFirst", "()V"⟩ : MethodName)) (b := b593) (argsL := []) (rest := []) (mc := 0) (ms := 0) X626 hx hZ hown (mvT hZ (hw _ (List.mem_of_getElem? (i := 33) rfl))) (mvT hZ (hw _ (List.mem_of_getElem? (i := 34) rfl))) (notFace_of_selects (args := #[]) (mvT hZ (hw _ (List.mem_of_getElem? (i := 36) rfl)))) (mvT hZ (hw _ (List.mem_of_getElem? (i := 36) rfl))) (mvT hZ (hw _ (List.mem_of_getElem? (i := 35) rfl))) (by decide) f626_0 (backOf (W := 0) (dr0 l Z a0 hw [] b593 hob_595 hok_595 mb_595 mk_595 mv_595 i0 i1 i2 T626.heap n0 zz636 f626_0 f626_1 f626_2 f626_3 f626_4 f626_5 f626_6 f626_7 (by omega) (by omega) (by omega) (by omega) (by omega)) hZ (hw _ (List.mem_of_getElem? (i := 37) rfl)) (hw _ (List.mem_of_getElem? (i := 3) rfl)) (by decide) (by decide)) rfl (by rw [hml]; rfl) (lenOf pd_7 rfl) rfl (by show 2 * 0 + _ ≤ _; exact Nat.le_of_eq rfl) (hb hby at_45) rfl (rfl : T626.heap = T626.heap) (by decide) (by decide) ?_
    intro v636 T636 Lc636 hQ636 X636
    obtain ⟨rfl, Nq636, K636, f636_0, f636_1, f636_2, f636_3, f636_4, f636_5⟩ := hQ636
    have z637 : T626.heap.size ≤ T636.heap.size := K636.1
    have N636 := Fr.app N626 Nq636
    have lt638 := own_alt f636_0.lt
    have lt639 := own_alt f636_1.lt
    have lt640 := own_alt f636_2.lt
    have lt641 := own_alt f636_3.lt
    have lt642 := own_alt f636_4.lt
    have lt643 := own_alt f636_5.lt
    refine Gl.go (fun _ hr => zXS_iload X636.here hx rfl (hb hby at_48) rfl (zXS_iconst X636.here hx rfl (hb hby at_50) (zXS_icmpYes X636.here hx rfl (pc0 := 51) (pc' := 59) rfl (hb hby at_51) rfl (XT.ii_lt_t (by decide)) (by decide) (by decide) (zXS_iload X636.here hx rfl (hb hby at_59) rfl (zXS_iconst X636.here hx rfl (hb hby at_61) (zXS_icmpYes X636.here hx rfl (pc0 := 62) (pc' := 70) rfl (hb hby at_62) rfl (XT.ii_lt_t (by decide)) (by decide) (by decide) (zXS_iconst X636.here hx rfl (hb hby at_70) (zXS_iload X636.here hx rfl (hb hby at_71) rfl (zXS_isub X636.here hx rfl (hb hby at_73) rfl (zXS_istore X636.here hx rfl (hb hby at_74) rfl (l' := #[.val (.long i0), .second, .val (.long i1), .second, .val (.long i2), .second, .val (.long i3), .second, .val (.int i4), .val (.int (1 : Int32)), .val (.ref b593), .val (.int (2 : Int32)), .unset, .unset, .unset, .unset, .unset, .unset, .unset, .unset, .unset]) rfl hr)))))))))) ?_
    refine Gl.go (fun _ hr => zXS_aload X636.here hx rfl (hb hby at_76) rfl rfl hr) ?_
    have zz644 : n0 ≤ T636.heap.size := by omega
    refine gVirtualN Gl.cl (y := (⟨"com/example/evenkeel/evenkeel/sim/LaneLayouts", "size", "()I"⟩ : MethodName)) (z := (⟨"com/example/evenkeel/evenkeel/sim/LaneLayouts", "size", "()I"⟩ : MethodName)) (b := b593) (argsL := []) (rest := []) (mc := 0) (ms := 0) X636 hx hZ hown (mvT hZ (hw _ (List.mem_of_getElem? (i := 40) rfl))) (mvT hZ (hw _ (List.mem_of_getElem? (i := 41) rfl))) (notFace_of_selects (args := #[]) (mvT hZ (hw _ (List.mem_of_getElem? (i := 43) rfl)))) (mvT hZ (hw _ (List.mem_of_getElem? (i := 43) rfl))) (mvT hZ (hw _ (List.mem_of_getElem? (i := 42) rfl))) (by decide) f636_0 (backOf (W := 0) (sz1 l Z a0 hw [] b593 T636.heap n0 zz644 f636_4 f636_3) hZ (hw _ (List.mem_of_getElem? (i := 44) rfl)) (hw _ (List.mem_of_getElem? (i := 3) rfl)) (by decide) (by decide)) rfl (by rw [hml]; rfl) (lenOf pd_4 rfl) rfl (by show 2 * 0 + _ ≤ _; exact Nat.le_of_eq rfl) (hb hby at_78) rfl (rfl : T636.heap = T636.heap) (by decide) (by decide) ?_
    intro v644 T644 Lc644 hQ644 X644
    obtain ⟨rfl, Nq644, e644⟩ := hQ644
    have N644 := Fr.app N636 Nq644
    refine Gl.go (fun _ hr => zXS_iload X644.here hx rfl (hb hby at_81) rfl (zXS_icmpYes X644.here hx rfl (pc0 := 83) (pc' := 88) rfl (hb hby at_83) rfl (XT.ii_eq_t (by decide)) (by decide) (by decide) (zXS_iload X644.here hx rfl (hb hby at_88) rfl (zXS_ifYes X644.here hx rfl (pc0 := 90) (pc' := 97) rfl (hb hby at_90) rfl (XT.i0_ne_t (by decide)) (by decide) (by decide) (zXS_iload X644.here hx rfl (hb hby at_97) rfl (zXS_iconst X644.here hx rfl (hb hby at_99) (zXS_icmpNo X644.here hx rfl (hb hby at_100) rfl (XT.ii_ne_f (by decide)) (zXT_lloadN X644.here hx rfl (hb hby at_103) rfl (zXS_goto X644.here hx rfl (pc0 := 104) (pc' := 109) rfl (hb hby at_104) (by decide) (by decide) (zXT_lstore X644.here hx rfl (hb hby at_109) rfl (l' := #[.val (.long i0), .second, .val (.long i1), .second, .val (.long i2), .second, .val (.long i3), .second, .val (.int i4), .val (.int (1 : Int32)), .val (.ref b593), .val (.int (2 : Int32)), .val (.long i1), .second, .unset, .unset, .unset, .unset, .unset, .unset, .unset]) rfl hr)))))))))) ?_
    refine Gl.go (fun _ hr => zXS_iload X644.here hx rfl (hb hby at_111) rfl (zXS_ifYes X644.here hx rfl (pc0 := 113) (pc' := 120) rfl (hb hby at_113) rfl (XT.i0_ne_t (by decide)) (by decide) (by decide) (zXT_lload X644.here hx rfl (hb hby at_120) rfl (zXT_lstore X644.here hx rfl (hb hby at_122) rfl (l' := #[.val (.long i0), .second, .val (.long i1), .second, .val (.long i2), .second, .val (.long i3), .second, .val (.int i4), .val (.int (1 : Int32)), .val (.ref b593), .val (.int (2 : Int32)), .val (.long i1), .second, .val (.long i2), .second, .unset, .unset, .unset, .unset, .unset]) rfl (zXS_iconst X644.here hx rfl (hb hby at_124) hr))))) ?_
    refine gNewPE Gl.cl X644 hx hZ (hw _ (List.mem_of_getElem? (i := 10) rfl)) e644 rfl (hb hby at_125) rfl (by decide) (cap := 1) (by decide) (by decide) (by decide) (by decide) (ad := "[J") (by decide) ?_
    intro T645 h645 b645 k645 g645 X645 e645 E645 A645 B645
    have z646 : T636.heap.size ≤ h645.size := E645.1
    have lt645 := own_alt A645.lt
    have V645 : Arv Z h645 b645 k645 .long (1 : Int32) [(.long (0 : Int64))] (.long (0 : Int64)) := (Arv.new A645 (by decide)).pad (pad_rep [] (.long (0 : Int64)) 1)
    refine Gl.go (fun _ hr => zXS_dup X645.here hx rfl (hb hby at_127) rfl rfl (zXS_iconst X645.here hx rfl (hb hby at_128) (zXT_lload X645.here hx rfl (hb hby at_129) rfl hr))) ?_
    obtain ⟨c647, a647, q647, s647, m647, H647, U647⟩ := id V645
    refine gstJ Gl.cl X645 hx hZ e645 a647 (j := (0 : Int32)) (inb_of s647 ⟨(by decide), (by decide)⟩) rfl rfl (hb hby at_131) ?_
    intro T647 h647 X647 e647 W647
    have z648 : h645.size ≤ h647.size := (Keep.of_wr W647).1
    have V647 : Arv Z h647 b645 k645 .long (1 : Int32) [(.long i3)] (.long (0 : Int64)) := Arv.set a647 q647 s647 m647 H647 U647 rfl W647 0 rfl (Nat.le_of_ble_eq_true rfl)
    have N647 := Fr.snoc X647 N644 (own_ale (by omega))
    refine Gl.go (fun _ hr => zXS_astore X647.here hx rfl (hb hby at_132) rfl rfl (l' := #[.val (.long i0), .second, .val (.long i1), .second, .val (.long i2), .second, .val (.long i3), .second, .val (.int i4), .val (.int (1 : Int32)), .val (.ref b593), .val (.int (2 : Int32)), .val (.long i1), .second, .val (.long i2), .second, .val (.ref b645), .unset, .unset, .unset, .unset]) rfl (zXS_aload X647.here hx rfl (hb hby at_134) rfl rfl (zXS_aload X647.here hx rfl (hb hby at_136) rfl rfl hr))) ?_
    have Ec650 := ((f636_0.ext E645).wr W647)
    have Fc651 := ((f636_1.ext E645).other W647 (Or.inl (own_ane (by omega))))
    have Fc652 := ((f636_2.ext E645).other W647 (Or.inl (own_ane (by omega))))
    have Fc653 := ((f636_3.ext E645).other W647 (Or.inl (own_ane (by omega))))
    have Fc654 := ((f636_4.ext E645).other W647 (Or.inl (own_ane (by omega))))
    have Fc655 := ((f636_5.ext E645).other W647 (Or.inl (own_ane (by omega))))
    have Vc656 := (((f626_6.keep K636 (ninS (own_ane (by omega)) nin0)).ext E645).other W647 (own_ane (by omega)))
    have Vc657 := (((f626_7.keep K636 (ninS (own_ane (by omega)) nin0)).ext E645).other W647 (own_ane (by omega)))
    have Ec658 := (B645.wr W647)
    have zz649 : n0 ≤ h647.size := by omega
    refine gVirtualN Gl.cl (y := (⟨"com/example/evenkeel/evenkeel/sim/LaneLayouts", "starts", "([J)[J"⟩ : MethodName)) (z := (⟨"com/example/evenkeel/evenkeel/sim/LaneLayouts", "starts", "([J)[J"⟩ : MethodName)) (b := b593) (argsL := [(.ref b645)]) (rest := []) (mc := 2) (ms := 3) X647 hx hZ hown (mvT hZ (hw _ (List.mem_of_getElem? (i := 45) rfl))) (mvT hZ (hw _ (List.mem_of_getElem? (i := 46) rfl))) (notFace_of_selects (args := #[]) (mvT hZ (hw _ (List.mem_of_getElem? (i := 48) rfl)))) (mvT hZ (hw _ (List.mem_of_getElem? (i := 48) rfl))) (mvT hZ (hw _ (List.mem_of_getElem? (i := 47) rfl))) (by decide) Ec650 (backOf (W := 0) (st1 l Z a0 hw [] b593 hob_595 hok_595 mb_595 mk_595 mv_595 i0 i1 i2 b645 k645 i3 h647 n0 zz649 Ec650 Fc651 Fc652 Fc653 Fc654 Fc655 Vc656 Vc657 V647 Ec658) hZ (hw _ (List.mem_of_getElem? (i := 49) rfl)) (hw _ (List.mem_of_getElem? (i := 3) rfl)) (by decide) (by decide)) rfl (by rw [hml]; rfl) (lenOf pd_9 rfl) rfl (by show 2 * 0 + _ ≤ _; exact Nat.le_of_eq rfl) (hb hby at_138) rfl e647 (by decide) (by decide) ?_
    intro v649 T649 Lc649 hQ649 X649
    obtain ⟨r_649, rk_649, rfl, Nq649, K649, f649_0, f649_1⟩ := hQ649
    have z659 : h647.size ≤ T649.heap.size := K649.1
    have N649 := Fr.app N647 Nq649
    have lt660 := own_alt f649_0.lt
    refine Gl.go (fun _ hr => zXS_astore X649.here hx rfl (hb hby at_141) rfl rfl (l' := #[.val (.long i0), .second, .val (.long i1), .second, .val (.long i2), .second, .val (.long i3), .second, .val (.int i4), .val (.int (1 : Int32)), .val (.ref b593), .val (.int (2 : Int32)), .val (.long i1), .second, .val (.long i2), .second, .val (.ref b645), .val (.ref r_649), .unset, .unset, .unset]) rfl (zXS_aload X649.here hx rfl (hb hby at_143) rfl rfl hr)) ?_
    obtain ⟨c661, a661, q661, s661, m661, H661, U661⟩ := id f649_0
    refine gLen Gl.cl X649 hx hZ (rfl : T649.heap = T649.heap) a661 s661 m661 rfl rfl (hb hby at_145) ?_
    refine Gl.go (fun _ hr => zXS_iload X649.here hx rfl (hb hby at_146) rfl (zXS_icmpYes X649.here hx rfl (pc0 := 148) (pc' := 153) rfl (hb hby at_148) rfl (XT.ii_eq_t (by decide)) (by decide) (by decide) (zXS_aload X649.here hx rfl (hb hby at_153) rfl rfl (zXS_iconst X649.here hx rfl (hb hby at_155) hr)))) ?_
    show Gl p.tables e below _ (T649.setTop (mkF m 156 #[.val (.long i0), .second, .val (.long i1), .second, .val (.long i2), .second, .val (.long i3), .second, .val (.int i4), .val (.int (1 : Int32)), .val (.ref b593), .val (.int (2 : Int32)), .val (.long i1), .second, .val (.long i2), .second, .val (.ref b645), .val (.ref r_649), .unset, .unset, .unset] [(.int (0 : Int32)), (.ref b645)]))
    have Vc662 := (V647.keep K649 nin0)
    obtain ⟨c663, a663, q663, s663, m663, H663, U663⟩ := id Vc662
    have i663 := inb_of s663 (j := (0 : Int32)) ⟨(by decide), (by decide)⟩
    refine g_laload Gl.cl X649 hx hZ (rfl : T649.heap = T649.heap) a663 i663 (v := (.long i3)) (H663.at i663 rfl) rfl rfl (hb hby at_156) ?_
    refine Gl.go (fun _ hr => zXT_lload X649.here hx rfl (hb hby at_157) rfl (zXT_lcmp X649.here hx rfl (hb hby at_159) rfl hr)) ?_
    refine Gl.go (fun _ hr => zXS_ifYes X649.here hx rfl (pc0 := 160) (pc' := 165) rfl (hb hby at_160) rfl (XT.ll_eq_t rfl) (by decide) (by decide) (zXS_iload X649.here hx rfl (hb hby at_165) rfl (zXS_iconst X649.here hx rfl (hb hby at_167) (zXS_icmpNo X649.here hx rfl (hb hby at_168) rfl (XT.ii_lt_f (by decide)) (zXS_aload X649.here hx rfl (hb hby at_171) rfl rfl (zXS_iconst X649.here hx rfl (hb hby at_173) hr)))))) ?_
    obtain ⟨c664, a664, q664, s664, m664, H664, U664⟩ := id f649_0
    have i664 := inb_of s664 (j := (0 : Int32)) ⟨(by decide), (by decide)⟩
    refine g_laload Gl.cl X649 hx hZ (rfl : T649.heap = T649.heap) a664 i664 (v := (.long i3)) (H664.at i664 rfl) rfl rfl (hb hby at_174) ?_
    refine Gl.go (fun _ hr => zXT_lload X649.here hx rfl (hb hby at_175) rfl (zXT_lcmp X649.here hx rfl (hb hby at_177) rfl hr)) ?_
    refine Gl.go (fun _ hr => zXS_ifYes X649.here hx rfl (pc0 := 178) (pc' := 183) rfl (hb hby at_178) rfl (XT.ll_eq_t rfl) (by decide) (by decide) (zXS_iload X649.here hx rfl (hb hby at_183) rfl (zXS_iconst X649.here hx rfl (hb hby at_185) (zXS_icmpNo X649.here hx rfl (hb hby at_186) rfl (XT.ii_lt_f (by decide)) (zXS_aload X649.here hx rfl (hb hby at_189) rfl rfl (zXS_iconst X649.here hx rfl (hb hby at_191) hr)))))) ?_
    obtain ⟨c665, a665, q665, s665, m665, H665, U665⟩ := id f649_0
    have i665 := inb_of s665 (j := (1 : Int32)) ⟨(by decide), (by decide)⟩
    refine g_laload Gl.cl X649 hx hZ (rfl : T649.heap = T649.heap) a665 i665 (v := (.long (i3 + i1))) (H665.at i665 rfl) rfl rfl (hb hby at_192) ?_
    refine Gl.go (fun _ hr => zXT_lload X649.here hx rfl (hb hby at_193) rfl (zXT_lload X649.here hx rfl (hb hby at_195) rfl (zXT_ladd X649.here hx rfl (hb hby at_197) rfl (zXT_lcmp X649.here hx rfl (hb hby at_198) rfl hr)))) ?_
    refine Gl.go (fun _ hr => zXS_ifYes X649.here hx rfl (pc0 := 199) (pc' := 204) rfl (hb hby at_199) rfl (XT.ll_eq_t rfl) (by decide) (by decide) (zXS_iload X649.here hx rfl (hb hby at_204) rfl (zXS_iconst X649.here hx rfl (hb hby at_206) (zXS_icmpYes X649.here hx rfl (pc0 := 207) (pc' := 228) rfl (hb hby at_207) rfl (XT.ii_lt_t (by decide)) (by decide) (by decide) (zXS_iload X649.here hx rfl (hb hby at_228) rfl (zXS_iconst X649.here hx rfl (hb hby at_230) (zXS_icmpNo X649.here hx rfl (hb hby at_231) rfl (XT.ii_lt_f (by decide)) (zXS_iconst X649.here hx rfl (hb hby at_234) hr)))))))) ?_
    refine gNewPE Gl.cl X649 hx hZ (hw _ (List.mem_of_getElem? (i := 10) rfl)) (rfl : T649.heap = T649.heap) rfl (hb hby at_235) rfl (by decide) (cap := 1) (by decide) (by decide) (by decide) (by decide) (ad := "[J") (by decide) ?_
    intro T666 h666 b666 k666 g666 X666 e666 E666 A666 B666
    have z667 : T649.heap.size ≤ h666.size := E666.1
    have lt666 := own_alt A666.lt
    have V666 : Arv Z h666 b666 k666 .long (1 : Int32) [(.long (0 : Int64))] (.long (0 : Int64)) := (Arv.new A666 (by decide)).pad (pad_rep [] (.long (0 : Int64)) 1)
    refine Gl.go (fun _ hr => zXS_dup X666.here hx rfl (hb hby at_237) rfl rfl (zXS_iconst X666.here hx rfl (hb hby at_238) (zXT_lload X666.here hx rfl (hb hby at_239) rfl hr))) ?_
    obtain ⟨c668, a668, q668, s668, m668, H668, U668⟩ := id V666
    refine gstJ Gl.cl X666 hx hZ e666 a668 (j := (0 : Int32)) (inb_of s668 ⟨(by decide), (by decide)⟩) rfl rfl (hb hby at_241) ?_
    intro T668 h668 X668 e668 W668
    have z669 : h666.size ≤ h668.size := (Keep.of_wr W668).1
    have V668 : Arv Z h668 b666 k666 .long (1 : Int32) [(.long i3)] (.long (0 : Int64)) := Arv.set a668 q668 s668 m668 H668 U668 rfl W668 0 rfl (Nat.le_of_ble_eq_true rfl)
    have N668 := Fr.snoc X668 N649 (own_ale (by omega))
    refine Gl.go (fun _ hr => zXS_astore X668.here hx rfl (hb hby at_242) rfl rfl (l' := #[.val (.long i0), .second, .val (.long i1), .second, .val (.long i2), .second, .val (.long i3), .second, .val (.int i4), .val (.int (1 : Int32)), .val (.ref b593), .val (.int (2 : Int32)), .val (.long i1), .second, .val (.long i2), .second, .val (.ref b645), .val (.ref r_649), .val (.ref b666), .unset, .unset]) rfl (zXS_aload X668.here hx rfl (hb hby at_244) rfl rfl (zXS_aload X668.here hx rfl (hb hby at_246) rfl rfl hr))) ?_
    have Oc671 := ((((((((((Oc596.keep K595 (allS (own_ale (by omega)) all0)).keep K606 (allS (own_ale (by omega)) (allS (own_ale (by omega)) all0))).keep K616 (allS (own_ale (by omega)) (allS (own_ale (by omega)) all0))).keep K626 (allS (own_ale (by omega)) (allS (own_ale (by omega)) all0))).keep K636 (allS (own_ale (by omega)) all0)).ext E645).wr W647 (own_ale (by omega))).keep K649 all0).ext E666).wr W668 (own_ale (by omega)))
    have Ec672 := (((Ec650.keep K649).ext E666).wr W668)
    have Fc673 := (((Fc651.keep K649 nin0).ext E666).other W668 (Or.inl (own_ane (by omega))))
    have Fc674 := (((Fc652.keep K649 nin0).ext E666).other W668 (Or.inl (own_ane (by omega))))
    have Fc675 := (((Fc653.keep K649 nin0).ext E666).other W668 (Or.inl (own_ane (by omega))))
    have Fc676 := (((Fc654.keep K649 nin0).ext E666).other W668 (Or.inl (own_ane (by omega))))
    have Fc677 := (((Fc655.keep K649 nin0).ext E666).other W668 (Or.inl (own_ane (by omega))))
    have Vc678 := (((Vc656.keep K649 nin0).ext E666).other W668 (own_ane (by omega)))
    have Vc679 := (((Vc657.keep K649 nin0).ext E666).other W668 (own_ane (by omega)))
    have zz670 : n0 ≤ h668.size := by omega
    refine gVirtualN Gl.cl (y := (⟨"com/example/evenkeel/evenkeel/sim/LaneLayouts", "layOut", "([J)J"⟩ : MethodName)) (z := (⟨"com/example/evenkeel/evenkeel/sim/LaneLayouts", "layOut", "([J)J"⟩ : MethodName)) (b := b593) (argsL := [(.ref b666)]) (rest := []) (mc := 0) (ms := 0) X668 hx hZ hown (mvT hZ (hw _ (List.mem_of_getElem? (i := 77) rfl))) (mvT hZ (hw _ (List.mem_of_getElem? (i := 78) rfl))) (notFace_of_selects (args := #[]) (mvT hZ (hw _ (List.mem_of_getElem? (i := 80) rfl)))) (mvT hZ (hw _ (List.mem_of_getElem? (i := 80) rfl))) (mvT hZ (hw _ (List.mem_of_getElem? (i := 79) rfl))) (by decide) Ec672 (backOf (W := 0) (lo1 l Z a0 hw [] b593 hob_595 hok_595 mb_595 mk_595 mv_595 i0 i1 i2 b666 k666 i3 h668 n0 zz670 Oc671 q1 Ec672 Fc673 Fc674 Fc675 Fc676 Fc677 Vc678 Vc679 V668 (by omega) (by omega) (by omega) (by omega)) hZ (hw _ (List.mem_of_getElem? (i := 81) rfl)) (hw _ (List.mem_of_getElem? (i := 3) rfl)) (by decide) (by decide)) rfl (by rw [hml]; rfl) (lenOf pd_10 rfl) rfl (by show 2 * 0 + _ ≤ _; exact Nat.le_of_eq rfl) (hb hby at_248) rfl e668 (by decide) (by decide) ?_
    intro v670 T670 Lc670 hQ670 X670
    obtain ⟨rfl, Nq670, K670, f670_0⟩ := hQ670
    have z680 : h668.size ≤ T670.heap.size := K670.1
    have N670 := Fr.app N668 Nq670
    have lt681 := own_alt f670_0.lt
    refine Gl.go (fun _ hr => zXT_lstore X670.here hx rfl (hb hby at_251) rfl (l' := #[.val (.long i0), .second, .val (.long i1), .second, .val (.long i2), .second, .val (.long i3), .second, .val (.int i4), .val (.int (1 : Int32)), .val (.ref b593), .val (.int (2 : Int32)), .val (.long i1), .second, .val (.long i2), .second, .val (.ref b645), .val (.ref r_649), .val (.ref b666), .val (.long (i3 + i1)), .second]) rfl (zXT_lload X670.here hx rfl (hb hby at_253) rfl (zXS_aload X670.here hx rfl (hb hby at_255) rfl rfl (zXS_iload X670.here hx rfl (hb hby at_257) rfl (zXS_iconst X670.here hx rfl (hb hby at_259) (zXS_isub X670.here hx rfl (hb hby at_260) rfl hr)))))) ?_
    have Vc682 := (((f649_0.ext E666).other W668 (own_ane (by omega))).keep K670 (ninS (own_ane (by omega)) nin0))
    obtain ⟨c683, a683, q683, s683, m683, H683, U683⟩ := id Vc682
    have i683 := inb_of s683 (j := (1 : Int32)) ⟨(by decide), (by decide)⟩
    refine g_laload Gl.cl X670 hx hZ (rfl : T670.heap = T670.heap) a683 i683 (v := (.long (i3 + i1))) (H683.at i683 rfl) rfl rfl (hb hby at_261) ?_
    refine Gl.go (fun _ hr => zXT_lcmp X670.here hx rfl (hb hby at_262) rfl hr) ?_
    refine Gl.go (fun _ hr => zXS_ifYes X670.here hx rfl (pc0 := 263) (pc' := 268) rfl (hb hby at_263) rfl (XT.ll_eq_t rfl) (by decide) (by decide) (zXS_aload X670.here hx rfl (hb hby at_268) rfl rfl (zXS_iconst X670.here hx rfl (hb hby at_270) hr))) ?_
    obtain ⟨c684, a684, q684, s684, m684, H684, U684⟩ := id f670_0
    have i684 := inb_of s684 (j := (0 : Int32)) ⟨(by decide), (by decide)⟩
    refine g_laload Gl.cl X670 hx hZ (rfl : T670.heap = T670.heap) a684 i684 (v := (.long ((i3 + i1) + i2))) (H684.at i684 rfl) rfl rfl (hb hby at_271) ?_
    refine Gl.go (fun _ hr => zXS_aload X670.here hx rfl (hb hby at_272) rfl rfl (zXS_iload X670.here hx rfl (hb hby at_274) rfl (zXS_iconst X670.here hx rfl (hb hby at_276) (zXS_isub X670.here hx rfl (hb hby at_277) rfl hr)))) ?_
    obtain ⟨c685, a685, q685, s685, m685, H685, U685⟩ := id Vc682
    have i685 := inb_of s685 (j := (1 : Int32)) ⟨(by decide), (by decide)⟩
    refine g_laload Gl.cl X670 hx hZ (rfl : T670.heap = T670.heap) a685 i685 (v := (.long (i3 + i1))) (H685.at i685 rfl) rfl rfl (hb hby at_278) ?_
    refine Gl.go (fun _ hr => zXT_lload X670.here hx rfl (hb hby at_279) rfl (zXT_ladd X670.here hx rfl (hb hby at_281) rfl (zXT_lcmp X670.here hx rfl (hb hby at_282) rfl hr))) ?_
    show Gl p.tables e below _ (T670.setTop (mkF m 283 #[.val (.long i0), .second, .val (.long i1), .second, .val (.long i2), .second, .val (.long i3), .second, .val (.int i4), .val (.int (1 : Int32)), .val (.ref b593), .val (.int (2 : Int32)), .val (.long i1), .second, .val (.long i2), .second, .val (.ref b645), .val (.ref r_649), .val (.ref b666), .val (.long (i3 + i1)), .second] [(.int (XT.cmpL ((i3 + i1) + i2) ((i3 + i1) + i2)))]))
    refine Gl.go (fun _ hr => zXS_ifYes X670.here hx rfl (pc0 := 283) (pc' := 288) rfl (hb hby at_283) rfl (XT.ll_eq_t rfl) (by decide) (by decide) (zXS_iconst X670.here hx rfl (hb hby at_288) hr)) ?_
    obtain ⟨fs, hr, hrun, hended, hW, hsame⟩ := X670.leave (v := some (.int (1 : Int32))) (fun h => by rw [Bd.returns] at h; cases h)
    refine ⟨_, _, retN X670 hx (t := .boolean) Bd.returns (by simp) (hb hby at_289) hr, hrun, hended, _, _, rfl, ?_, ⟨⟨_, rfl⟩, hW, hsame.mono (by decide) (by decide)⟩⟩
    show Qlawrm Z i0 i1 i2 i3 i4 h0 n0 _ T670.heap _
    exact ⟨rfl, N670, (((((((((((((Keep.refl h0 []).ext E593).trans K595 (allS (P := fun x_ => x_ ∈ ([] : List Addr) ∨ h0.size ≤ x_) (Or.inr (own_ale (by omega))) all0)).trans K606 (allS (P := fun x_ => x_ ∈ ([] : List Addr) ∨ h0.size ≤ x_) (Or.inr (own_ale (by omega))) (allS (P := fun x_ => x_ ∈ ([] : List Addr) ∨ h0.size ≤ x_) (Or.inr (own_ale (by omega))) all0))).trans K616 (allS (P := fun x_ => x_ ∈ ([] : List Addr) ∨ h0.size ≤ x_) (Or.inr (own_ale (by omega))) (allS (P := fun x_ => x_ ∈ ([] : List Addr) ∨ h0.size ≤ x_) (Or.inr (own_ale (by omega))) all0))).trans K626 (allS (P := fun x_ => x_ ∈ ([] : List Addr) ∨ h0.size ≤ x_) (Or.inr (own_ale (by omega))) (allS (P := fun x_ => x_ ∈ ([] : List Addr) ∨ h0.size ≤ x_) (Or.inr (own_ale (by omega))) all0))).trans K636 (allS (P := fun x_ => x_ ∈ ([] : List Addr) ∨ h0.size ≤ x_) (Or.inr (own_ale (by omega))) all0)).ext E645).wr W647 (Or.inr (own_ale (by omega)))).trans K649 all0).ext E666).wr W668 (Or.inr (own_ale (by omega)))).trans K670 (allS (P := fun x_ => x_ ∈ ([] : List Addr) ∨ h0.size ≤ x_) (Or.inr (own_ale (by omega))) all0))⟩
  · subst hq
    show Gl p.tables e below _ (s₁.setTop (mkF m 7 #[.val (.long i0), .second, .val (.long i1), .second, .val (.long i2), .second, .val (.long i3), .second, .val (.int i4), .unset, .unset, .unset, .unset, .unset, .unset, .unset, .unset, .unset, .unset, .unset, .unset] [(.int (2 : Int32))]))
    refine Gl.go (fun _ hr => zXS_istore X0.here hx rfl (hb hby at_7) rfl (l' := #[.val (.long i0), .second, .val (.long i1), .second, .val (.long i2), .second, .val (.long i3), .second, .val (.int i4), .val (.int (2 : Int32)), .unset, .unset, .unset, .unset, .unset, .unset, .unset, .unset, .unset, .unset, .unset]) rfl hr) ?_
    refine gNew Gl.cl X0 hx hZ hown (hw _ (List.mem_of_getElem? (i := 1) rfl)) (hw _ (List.mem_of_getElem? (i := 2) rfl)) (hw _ (List.mem_of_getElem? (i := 3) rfl)) e0 rfl (hb hby at_9) (by decide) (by decide) ?_
    intro T686 h686 b686 g686 X686 e686 E686 A686 D686
    have z687 : h0.size ≤ h686.size := E686.1
    have lt686 := own_alt A686.lt
    have F686_holds : Fld Z h686 b686 "com/example/evenkeel/evenkeel/sim/LaneLayouts" "holds" "[J" .null := D686 (Or.inl (hw _ (List.mem_of_getElem? (i := 12) rfl))) (ty := (.array .long)) (by decide)
    have F686_memories : Fld Z h686 b686 "com/example/evenkeel/evenkeel/sim/LaneLayouts" "memories" "[[Lcom/example/evenkeel/evenkeel/sim/LaneLayouts$Memory;" .null := D686 (Or.inl (hw _ (List.mem_of_getElem? (i := 17) rfl))) (ty := (.array (.array (.object "com/example/evenkeel/evenkeel/sim/LaneLayouts$Memory")))) (by decide)
    have F686_apart : Fld Z h686 b686 "com/example/evenkeel/evenkeel/sim/LaneLayouts" "apart" "[[J" .null := D686 (Or.inr (hw _ (List.mem_of_getElem? (i := 23) rfl))) (ty := (.array (.array .long))) (by decide)
    have F686_end : Fld Z h686 b686 "com/example/evenkeel/evenkeel/sim/LaneLayouts" "end" "I" (.int (0 : Int32)) := D686 (Or.inl (hw _ (List.mem_of_getElem? (i := 30) rfl))) (ty := .int) (by decide)
    have F686_base : Fld Z h686 b686 "com/example/evenkeel/evenkeel/sim/LaneLayouts" "base" "I" (.int (0 : Int32)) := D686 (Or.inl (hw _ (List.mem_of_getElem? (i := 32) rfl))) (ty := .int) (by decide)
    have F686_first : Fld Z h686 b686 "com/example/evenkeel/evenkeel/sim/LaneLayouts" "first" "I" (.int (0 : Int32)) := D686 (Or.inl (hw _ (List.mem_of_getElem? (i := 39) rfl))) (ty := .int) (by decide)
    refine Gl.go (fun _ hr => zXS_dup X686.here hx rfl (hb hby at_12) rfl rfl hr) ?_
    have Oc689 := (q0.ext E686)
    have zz688 : n0 ≤ h686.size := by omega
    refine gSpecialN Gl.cl (y := (⟨"com/example/evenkeel/evenkeel/sim/LaneLayouts", "<init>", "()V"⟩ : MethodName)) (b := b686) (argsL := []) (rest := [(.ref b686)]) (mc := 30) (ms := 323) X686 hx hZ hown rfl (mvT hZ (hw _ (List.mem_of_getElem? (i := 4) rfl))) (mvT hZ (hw _ (List.mem_of_getElem? (i := 5) rfl))) (mvT hZ (hw _ (List.mem_of_getElem? (i := 6) rfl))) (by decide) (backOf (W := 1) (ini l Z a0 hw [] b686 h686 n0 zz688 Oc689 q1 (by omega) A686 F686_holds F686_base F686_first F686_end F686_memories F686_apart) hZ (hw _ (List.mem_of_getElem? (i := 6) rfl)) (hw _ (List.mem_of_getElem? (i := 3) rfl)) (by decide) (by decide)) rfl (by rw [hml]; rfl) (lenOf pd_7 rfl) rfl (by show 2 * 0 + _ ≤ _; exact Nat.le_of_eq rfl) (hb hby at_13) rfl e686 (by decide) (by decide) ?_
    intro v688 T688 Lc688 hQ688 X688
    obtain ⟨hob_688, hok_688, mb_688, mk_688, mv_688, rfl, Nq688, K688, f688_0, f688_1, f688_2, f688_3, f688_4, f688_5, f688_6, f688_7, f688_8, f688_9, f688_10, f688_11, f688_12⟩ := hQ688
    have z690 : h686.size ≤ T688.heap.size := K688.1
    have N688 := Fr.app N0 Nq688
    have lt691 := own_alt f688_0.lt
    have lt692 := own_alt f688_1.lt
    have lt693 := own_alt f688_2.lt
    have lt694 := own_alt f688_3.lt
    have lt695 := own_alt f688_4.lt
    have lt696 := own_alt f688_5.lt
    have lt697 := own_alt f688_6.lt
    have lt698 := own_alt f688_7.lt
    refine Gl.go (fun _ hr => zXS_astore X688.here hx rfl (hb hby at_16) rfl rfl (l' := #[.val (.long i0), .second, .val (.long i1), .second, .val (.long i2), .second, .val (.long i3), .second, .val (.int i4), .val (.int (2 : Int32)), .val (.ref b686), .unset, .unset, .unset, .unset, .unset, .unset, .unset, .unset, .unset, .unset]) rfl (zXS_aload X688.here hx rfl (hb hby at_18) rfl rfl (zXT_lloadN X688.here hx rfl (hb hby at_20) rfl hr))) ?_
    have zz699 : n0 ≤ T688.heap.size := by omega
    refine gVirtualN Gl.cl (y := (⟨"com/example/evenkeel/evenkeel/sim/LaneLayouts", "append", "(J)V"⟩ : MethodName)) (z := (⟨"com/example/evenkeel/evenkeel/sim/LaneLayouts", "append", "(J)V"⟩ : MethodName)) (b := b686) (argsL := [(.long i0)]) (rest := []) (mc := 0) (ms := 0) X688 hx hZ hown (mvT hZ (hw _ (List.mem_of_getElem? (i := 24) rfl))) (mvT hZ (hw _ (List.mem_of_getElem? (i := 25) rfl))) (notFace_of_selects (args := #[]) (mvT hZ (hw _ (List.mem_of_getElem? (i := 27) rfl)))) (mvT hZ (hw _ (List.mem_of_getElem? (i := 27) rfl))) (mvT hZ (hw _ (List.mem_of_getElem? (i := 26) rfl))) (by decide) f688_0 (backOf (W := 0) (ap0 l Z a0 hw [] b686 hob_688 hok_688 mb_688 mk_688 mv_688 (0 : Int64) (0 : Int64) (0 : Int64) i0 T688.heap n0 zz699 f688_0 f688_1 f688_2 f688_3 f688_4 f688_5 f688_6 f688_7 (by omega) (by omega) (by omega) (by omega) (by omega)) hZ (hw _ (List.mem_of_getElem? (i := 28) rfl)) (hw _ (List.mem_of_getElem? (i := 3) rfl)) (by decide) (by decide)) rfl (by rw [hml]; rfl) (lenOf pd_8 rfl) rfl (by show 2 * 0 + _ ≤ _; exact Nat.le_of_eq rfl) (hb hby at_21) rfl (rfl : T688.heap = T688.heap) (by decide) (by decide) ?_
    intro v699 T699 Lc699 hQ699 X699
    obtain ⟨rfl, Nq699, K699, f699_0, f699_1, f699_2, f699_3, f699_4, f699_5, f699_6, f699_7⟩ := hQ699
    have z700 : T688.heap.size ≤ T699.heap.size := K699.1
    have N699 := Fr.app N688 Nq699
    have lt701 := own_alt f699_0.lt
    have lt702 := own_alt f699_1.lt
    have lt703 := own_alt f699_2.lt
    have lt704 := own_alt f699_3.lt
    have lt705 := own_alt f699_4.lt
    have lt706 := own_alt f699_5.lt
    have lt707 := own_alt f699_6.lt
    have lt708 := own_alt f699_7.lt
    refine Gl.go (fun _ hr => zXS_aload X699.here hx rfl (hb hby at_24) rfl rfl (zXT_lloadN X699.here hx rfl (hb hby at_26) rfl hr)) ?_
    have zz709 : n0 ≤ T699.heap.size := by omega
    refine gVirtualN Gl.cl (y := (⟨"com/example/evenkeel/evenkeel/sim/LaneLayouts", "append", "(J)V"⟩ : MethodName)) (z := (⟨"com/example/evenkeel/evenkeel/sim/LaneLayouts", "append", "(J)V"⟩ : MethodName)) (b := b686) (argsL := [(.long i1)]) (rest := []) (mc := 0) (ms := 0) X699 hx hZ hown (mvT hZ (hw _ (List.mem_of_getElem? (i := 24) rfl))) (mvT hZ (hw _ (List.mem_of_getElem? (i := 25) rfl))) (notFace_of_selects (args := #[]) (mvT hZ (hw _ (List.mem_of_getElem? (i := 27) rfl)))) (mvT hZ (hw _ (List.mem_of_getElem? (i := 27) rfl))) (mvT hZ (hw _ (List.mem_of_getElem? (i := 26) rfl))) (by decide) f699_0 (backOf (W := 0) (ap1 l Z a0 hw [] b686 hob_688 hok_688 mb_688 mk_688 mv_688 i0 (0 : Int64) (0 : Int64) i1 T699.heap n0 zz709 f699_0 f699_1 f699_2 f699_3 f699_4 f699_5 f699_6 f699_7 (by omega) (by omega) (by omega) (by omega) (by omega)) hZ (hw _ (List.mem_of_getElem? (i := 28) rfl)) (hw _ (List.mem_of_getElem? (i := 3) rfl)) (by decide) (by decide)) rfl (by rw [hml]; rfl) (lenOf pd_8 rfl) rfl (by show 2 * 0 + _ ≤ _; exact Nat.le_of_eq rfl) (hb hby at_27) rfl (rfl : T699.heap = T699.heap) (by decide) (by decide) ?_
    intro v709 T709 Lc709 hQ709 X709
    obtain ⟨rfl, Nq709, K709, f709_0, f709_1, f709_2, f709_3, f709_4, f709_5, f709_6, f709_7⟩ := hQ709
    have z710 : T699.heap.size ≤ T709.heap.size := K709.1
    have N709 := Fr.app N699 Nq709
    have lt711 := own_alt f709_0.lt
    have lt712 := own_alt f709_1.lt
    have lt713 := own_alt f709_2.lt
    have lt714 := own_alt f709_3.lt
    have lt715 := own_alt f709_4.lt
    have lt716 := own_alt f709_5.lt
    have lt717 := own_alt f709_6.lt
    have lt718 := own_alt f709_7.lt
    refine Gl.go (fun _ hr => zXS_aload X709.here hx rfl (hb hby at_30) rfl rfl (zXT_lload X709.here hx rfl (hb hby at_32) rfl hr)) ?_
    have zz719 : n0 ≤ T709.heap.size := by omega
    refine gVirtualN Gl.cl (y := (⟨"com/example/evenkeel/evenkeel/sim/LaneLayouts", "append", "(J)V"⟩ : MethodName)) (z := (⟨"com/example/evenkeel/evenkeel/sim/LaneLayouts", "append", "(J)V"⟩ : MethodName)) (b := b686) (argsL := [(.long i2)]) (rest := []) (mc := 0) (ms := 0) X709 hx hZ hown (mvT hZ (hw _ (List.mem_of_getElem? (i := 24) rfl))) (mvT hZ (hw _ (List.mem_of_getElem? (i := 25) rfl))) (notFace_of_selects (args := #[]) (mvT hZ (hw _ (List.mem_of_getElem? (i := 27) rfl)))) (mvT hZ (hw _ (List.mem_of_getElem? (i := 27) rfl))) (mvT hZ (hw _ (List.mem_of_getElem? (i := 26) rfl))) (by decide) f709_0 (backOf (W := 0) (ap2 l Z a0 hw [] b686 hob_688 hok_688 mb_688 mk_688 mv_688 i0 i1 (0 : Int64) i2 T709.heap n0 zz719 f709_0 f709_1 f709_2 f709_3 f709_4 f709_5 f709_6 f709_7 (by omega) (by omega) (by omega) (by omega) (by omega)) hZ (hw _ (List.mem_of_getElem? (i := 28) rfl)) (hw _ (List.mem_of_getElem? (i := 3) rfl)) (by decide) (by decide)) rfl (by rw [hml]; rfl) (lenOf pd_8 rfl) rfl (by show 2 * 0 + _ ≤ _; exact Nat.le_of_eq rfl) (hb hby at_34) rfl (rfl : T709.heap = T709.heap) (by decide) (by decide) ?_
    intro v719 T719 Lc719 hQ719 X719
    obtain ⟨rfl, Nq719, K719, f719_0, f719_1, f719_2, f719_3, f719_4, f719_5, f719_6, f719_7⟩ := hQ719
    have z720 : T709.heap.size ≤ T719.heap.size := K719.1
    have N719 := Fr.app N709 Nq719
    have lt721 := own_alt f719_0.lt
    have lt722 := own_alt f719_1.lt
    have lt723 := own_alt f719_2.lt
    have lt724 := own_alt f719_3.lt
    have lt725 := own_alt f719_4.lt
    have lt726 := own_alt f719_5.lt
    have lt727 := own_alt f719_6.lt
    have lt728 := own_alt f719_7.lt
    refine Gl.go (fun _ hr => zXS_iload X719.here hx rfl (hb hby at_37) rfl (zXS_iconst X719.here hx rfl (hb hby at_39) (zXS_icmpNo X719.here hx rfl (hb hby at_40) rfl (XT.ii_lt_f (by decide)) (zXS_aload X719.here hx rfl (hb hby at_43) rfl rfl hr)))) ?_
    have zz729 : n0 ≤ T719.heap.size := by omega
    refine gVirtualN Gl.cl (y := (⟨"com/example/evenkeel/evenkeel/sim/LaneLayouts", "dropFirst", "()V"⟩ : MethodName)) (z := (⟨"com/example/evenkeel/evenkeel/sim/LaneLayouts", "dropFirst", "()V"⟩ : MethodName)) (b := b686) (argsL := []) (rest := []) (mc := 0) (ms := 0) X719 hx hZ hown (mvT hZ (hw _ (List.mem_of_getElem? (i := 33) rfl))) (mvT hZ (hw _ (List.mem_of_getElem? (i := 34) rfl))) (notFace_of_selects (args := #[]) (mvT hZ (hw _ (List.mem_of_getElem? (i := 36) rfl)))) (mvT hZ (hw _ (List.mem_of_getElem? (i := 36) rfl))) (mvT hZ (hw _ (List.mem_of_getElem? (i := 35) rfl))) (by decide) f719_0 (backOf (W := 0) (dr0 l Z a0 hw [] b686 hob_688 hok_688 mb_688 mk_688 mv_688 i0 i1 i2 T719.heap n0 zz729 f719_0 f719_1 f719_2 f719_3 f719_4 f719_5 f719_6 f719_7 (by omega) (by omega) (by omega) (by omega) (by omega)) hZ (hw _ (List.mem_of_getElem? (i := 37) rfl)) (hw _ (List.mem_of_getElem? (i := 3) rfl)) (by decide) (by decide)) rfl (by rw [hml]; rfl) (lenOf pd_7 rfl) rfl (by show 2 * 0 + _ ≤ _; exact Nat.le_of_eq rfl) (hb hby at_45) rfl (rfl : T719.heap = T719.heap) (by decide) (by decide) ?_
    intro v729 T729 Lc729 hQ729 X729
    obtain ⟨rfl, Nq729, K729, f729_0, f729_1, f729_2, f729_3, f729_4, f729_5⟩ := hQ729
    have z730 : T719.heap.size ≤ T729.heap.size := K729.1
    have N729 := Fr.app N719 Nq729
    have lt731 := own_alt f729_0.lt
    have lt732 := own_alt f729_1.lt
    have lt733 := own_alt f729_2.lt
    have lt734 := own_alt f729_3.lt
    have lt735 := own_alt f729_4.lt
    have lt736 := own_alt f729_5.lt
    refine Gl.go (fun _ hr => zXS_iload X729.here hx rfl (hb hby at_48) rfl (zXS_iconst X729.here hx rfl (hb hby at_50) (zXS_icmpNo X729.here hx rfl (hb hby at_51) rfl (XT.ii_lt_f (by decide)) (zXS_aload X729.here hx rfl (hb hby at_54) rfl rfl hr)))) ?_
    have Vc738 := (f719_6.keep K729 (ninS (own_ane (by omega)) nin0))
    have Vc739 := (f719_7.keep K729 (ninS (own_ane (by omega)) nin0))
    have zz737 : n0 ≤ T729.heap.size := by omega
    refine gVirtualN Gl.cl (y := (⟨"com/example/evenkeel/evenkeel/sim/LaneLayouts", "dropFirst", "()V"⟩ : MethodName)) (z := (⟨"com/example/evenkeel/evenkeel/sim/LaneLayouts", "dropFirst", "()V"⟩ : MethodName)) (b := b686) (argsL := []) (rest := []) (mc := 0) (ms := 0) X729 hx hZ hown (mvT hZ (hw _ (List.mem_of_getElem? (i := 33) rfl))) (mvT hZ (hw _ (List.mem_of_getElem? (i := 34) rfl))) (notFace_of_selects (args := #[]) (mvT hZ (hw _ (List.mem_of_getElem? (i := 36) rfl)))) (mvT hZ (hw _ (List.mem_of_getElem? (i := 36) rfl))) (mvT hZ (hw _ (List.mem_of_getElem? (i := 35) rfl))) (by decide) f729_0 (backOf (W := 0) (dr1 l Z a0 hw [] b686 hob_688 hok_688 mb_688 mk_688 mv_688 i0 i1 i2 T729.heap n0 zz737 f729_0 f729_1 f729_2 f729_3 f729_4 f729_5 Vc738 Vc739 (by omega) (by omega) (by omega) (by omega) (by omega)) hZ (hw _ (List.mem_of_getElem? (i := 37) rfl)) (hw _ (List.mem_of_getElem? (i := 3) rfl)) (by decide) (by decide)) rfl (by rw [hml]; rfl) (lenOf pd_7 rfl) rfl (by show 2 * 0 + _ ≤ _; exact Nat.le_of_eq rfl) (hb hby at_56) rfl (rfl : T729.heap = T729.heap) (by decide) (by decide) ?_
    intro v737 T737 Lc737 hQ737 X737
    obtain ⟨rfl, Nq737, K737, f737_0, f737_1, f737_2, f737_3, f737_4, f737_5⟩ := hQ737
    have z740 : T729.heap.size ≤ T737.heap.size := K737.1
    have N737 := Fr.app N729 Nq737
    have lt741 := own_alt f737_0.lt
    have lt742 := own_alt f737_1.lt
    have lt743 := own_alt f737_2.lt
    have lt744 := own_alt f737_3.lt
    have lt745 := own_alt f737_4.lt
    have lt746 := own_alt f737_5.lt
    refine Gl.go (fun _ hr => zXS_iload X737.here hx rfl (hb hby at_59) rfl (zXS_iconst X737.here hx rfl (hb hby at_61) (zXS_icmpYes X737.here hx rfl (pc0 := 62) (pc' := 70) rfl (hb hby at_62) rfl (XT.ii_lt_t (by decide)) (by decide) (by decide) (zXS_iconst X737.here hx rfl (hb hby at_70) (zXS_iload X737.here hx rfl (hb hby at_71) rfl (zXS_isub X737.here hx rfl (hb hby at_73) rfl (zXS_istore X737.here hx rfl (hb hby at_74) rfl (l' := #[.val (.long i0), .second, .val (.long i1), .second, .val (.long i2), .second, .val (.long i3), .second, .val (.int i4), .val (.int (2 : Int32)), .val (.ref b686), .val (.int (1 : Int32)), .unset, .unset, .unset, .unset, .unset, .unset, .unset, .unset, .unset]) rfl (zXS_aload X737.here hx rfl (hb hby at_76) rfl rfl hr)))))))) ?_
    have zz747 : n0 ≤ T737.heap.size := by omega
    refine gVirtualN Gl.cl (y := (⟨"com/example/evenkeel/evenkeel/sim/LaneLayouts", "size", "()I"⟩ : MethodName)) (z := (⟨"com/example/evenkeel/evenkeel/sim/LaneLayouts", "size", "()I"⟩ : MethodName)) (b := b686) (argsL := []) (rest := []) (mc := 0) (ms := 0) X737 hx hZ hown (mvT hZ (hw _ (List.mem_of_getElem? (i := 40) rfl))) (mvT hZ (hw _ (List.mem_of_getElem? (i := 41) rfl))) (notFace_of_selects (args := #[]) (mvT hZ (hw _ (List.mem_of_getElem? (i := 43) rfl)))) (mvT hZ (hw _ (List.mem_of_getElem? (i := 43) rfl))) (mvT hZ (hw _ (List.mem_of_getElem? (i := 42) rfl))) (by decide) f737_0 (backOf (W := 0) (sz2 l Z a0 hw [] b686 T737.heap n0 zz747 f737_4 f737_3) hZ (hw _ (List.mem_of_getElem? (i := 44) rfl)) (hw _ (List.mem_of_getElem? (i := 3) rfl)) (by decide) (by decide)) rfl (by rw [hml]; rfl) (lenOf pd_4 rfl) rfl (by show 2 * 0 + _ ≤ _; exact Nat.le_of_eq rfl) (hb hby at_78) rfl (rfl : T737.heap = T737.heap) (by decide) (by decide) ?_
    intro v747 T747 Lc747 hQ747 X747
    obtain ⟨rfl, Nq747, e747⟩ := hQ747
    have N747 := Fr.app N737 Nq747
    refine Gl.go (fun _ hr => zXS_iload X747.here hx rfl (hb hby at_81) rfl (zXS_icmpYes X747.here hx rfl (pc0 := 83) (pc' := 88) rfl (hb hby at_83) rfl (XT.ii_eq_t (by decide)) (by decide) (by decide) (zXS_iload X747.here hx rfl (hb hby at_88) rfl (zXS_ifYes X747.here hx rfl (pc0 := 90) (pc' := 97) rfl (hb hby at_90) rfl (XT.i0_ne_t (by decide)) (by decide) (by decide) (zXS_iload X747.here hx rfl (hb hby at_97) rfl (zXS_iconst X747.here hx rfl (hb hby at_99) (zXS_icmpYes X747.here hx rfl (pc0 := 100) (pc' := 107) rfl (hb hby at_100) rfl (XT.ii_ne_t (by decide)) (by decide) (by decide) (zXT_lload X747.here hx rfl (hb hby at_107) rfl (zXT_lstore X747.here hx rfl (hb hby at_109) rfl (l' := #[.val (.long i0), .second, .val (.long i1), .second, .val (.long i2), .second, .val (.long i3), .second, .val (.int i4), .val (.int (2 : Int32)), .val (.ref b686), .val (.int (1 : Int32)), .val (.long i2), .second, .unset, .unset, .unset, .unset, .unset, .unset, .unset]) rfl (zXS_iload X747.here hx rfl (hb hby at_111) rfl hr)))))))))) ?_
    refine Gl.go (fun _ hr => zXS_ifYes X747.here hx rfl (pc0 := 113) (pc' := 120) rfl (hb hby at_113) rfl (XT.i0_ne_t (by decide)) (by decide) (by decide) (zXT_lload X747.here hx rfl (hb hby at_120) rfl (zXT_lstore X747.here hx rfl (hb hby at_122) rfl (l' := #[.val (.long i0), .second, .val (.long i1), .second, .val (.long i2), .second, .val (.long i3), .second, .val (.int i4), .val (.int (2 : Int32)), .val (.ref b686), .val (.int (1 : Int32)), .val (.long i2), .second, .val (.long i2), .second, .unset, .unset, .unset, .unset, .unset]) rfl (zXS_iconst X747.here hx rfl (hb hby at_124) hr)))) ?_
    refine gNewPE Gl.cl X747 hx hZ (hw _ (List.mem_of_getElem? (i := 10) rfl)) e747 rfl (hb hby at_125) rfl (by decide) (cap := 1) (by decide) (by decide) (by decide) (by decide) (ad := "[J") (by decide) ?_
    intro T748 h748 b748 k748 g748 X748 e748 E748 A748 B748
    have z749 : T737.heap.size ≤ h748.size := E748.1
    have lt748 := own_alt A748.lt
    have V748 : Arv Z h748 b748 k748 .long (1 : Int32) [(.long (0 : Int64))] (.long (0 : Int64)) := (Arv.new A748 (by decide)).pad (pad_rep [] (.long (0 : Int64)) 1)
    refine Gl.go (fun _ hr => zXS_dup X748.here hx rfl (hb hby at_127) rfl rfl (zXS_iconst X748.here hx rfl (hb hby at_128) (zXT_lload X748.here hx rfl (hb hby at_129) rfl hr))) ?_
    obtain ⟨c750, a750, q750, s750, m750, H750, U750⟩ := id V748
    refine gstJ Gl.cl X748 hx hZ e748 a750 (j := (0 : Int32)) (inb_of s750 ⟨(by decide), (by decide)⟩) rfl rfl (hb hby at_131) ?_
    intro T750 h750 X750 e750 W750
    have z751 : h748.size ≤ h750.size := (Keep.of_wr W750).1
    have V750 : Arv Z h750 b748 k748 .long (1 : Int32) [(.long i3)] (.long (0 : Int64)) := Arv.set a750 q750 s750 m750 H750 U750 rfl W750 0 rfl (Nat.le_of_ble_eq_true rfl)
    have N750 := Fr.snoc X750 N747 (own_ale (by omega))
    refine Gl.go (fun _ hr => zXS_astore X750.here hx rfl (hb hby at_132) rfl rfl (l' := #[.val (.long i0), .second, .val (.long i1), .second, .val (.long i2), .second, .val (.long i3), .second, .val (.int i4), .val (.int (2 : Int32)), .val (.ref b686), .val (.int (1 : Int32)), .val (.long i2), .second, .val (.long i2), .second, .val (.ref b748), .unset, .unset, .unset, .unset]) rfl (zXS_aload X750.here hx rfl (hb hby at_134) rfl rfl (zXS_aload X750.here hx rfl (hb hby at_136) rfl rfl hr))) ?_
    have Ec753 := ((f737_0.ext E748).wr W750)
    have Fc754 := ((f737_1.ext E748).other W750 (Or.inl (own_ane (by omega))))
    have Fc755 := ((f737_2.ext E748).other W750 (Or.inl (own_ane (by omega))))
    have Fc756 := ((f737_3.ext E748).other W750 (Or.inl (own_ane (by omega))))
    have Fc757 := ((f737_4.ext E748).other W750 (Or.inl (own_ane (by omega))))
    have Fc758 := ((f737_5.ext E748).other W750 (Or.inl (own_ane (by omega))))
    have Vc759 := (((Vc738.keep K737 (ninS (own_ane (by omega)) nin0)).ext E748).other W750 (own_ane (by omega)))
    have Vc760 := (((Vc739.keep K737 (ninS (own_ane (by omega)) nin0)).ext E748).other W750 (own_ane (by omega)))
    have Ec761 := (B748.wr W750)
    have zz752 : n0 ≤ h750.size := by omega
    refine gVirtualN Gl.cl (y := (⟨"com/example/evenkeel/evenkeel/sim/LaneLayouts", "starts", "([J)[J"⟩ : MethodName)) (z := (⟨"com/example/evenkeel/evenkeel/sim/LaneLayouts", "starts", "([J)[J"⟩ : MethodName)) (b := b686) (argsL := [(.ref b748)]) (rest := []) (mc := 2) (ms := 2) X750 hx hZ hown (mvT hZ (hw _ (List.mem_of_getElem? (i := 45) rfl))) (mvT hZ (hw _ (List.mem_of_getElem? (i := 46) rfl))) (notFace_of_selects (args := #[]) (mvT hZ (hw _ (List.mem_of_getElem? (i := 48) rfl)))) (mvT hZ (hw _ (List.mem_of_getElem? (i := 48) rfl))) (mvT hZ (hw _ (List.mem_of_getElem? (i := 47) rfl))) (by decide) Ec753 (backOf (W := 0) (st2 l Z a0 hw [] b686 hob_688 hok_688 mb_688 mk_688 mv_688 i0 i1 i2 b748 k748 i3 h750 n0 zz752 Ec753 Fc754 Fc755 Fc756 Fc757 Fc758 Vc759 Vc760 V750 Ec761) hZ (hw _ (List.mem_of_getElem? (i := 49) rfl)) (hw _ (List.mem_of_getElem? (i := 3) rfl)) (by decide) (by decide)) rfl (by rw [hml]; rfl) (lenOf pd_9 rfl) rfl (by show 2 * 0 + _ ≤ _; exact Nat.le_of_eq rfl) (hb hby at_138) rfl e750 (by decide) (by decide) ?_
    intro v752 T752 Lc752 hQ752 X752
    obtain ⟨r_752, rk_752, rfl, Nq752, K752, f752_0, f752_1⟩ := hQ752
    have z762 : h750.size ≤ T752.heap.size := K752.1
    have N752 := Fr.app N750 Nq752
    have lt763 := own_alt f752_0.lt
    refine Gl.go (fun _ hr => zXS_astore X752.here hx rfl (hb hby at_141) rfl rfl (l' := #[.val (.long i0), .second, .val (.long i1), .second, .val (.long i2), .second, .val (.long i3), .second, .val (.int i4), .val (.int (2 : Int32)), .val (.ref b686), .val (.int (1 : Int32)), .val (.long i2), .second, .val (.long i2), .second, .val (.ref b748), .val (.ref r_752), .unset, .unset, .unset]) rfl (zXS_aload X752.here hx rfl (hb hby at_143) rfl rfl hr)) ?_
    obtain ⟨c764, a764, q764, s764, m764, H764, U764⟩ := id f752_0
    refine gLen Gl.cl X752 hx hZ (rfl : T752.heap = T752.heap) a764 s764 m764 rfl rfl (hb hby at_145) ?_
    refine Gl.go (fun _ hr => zXS_iload X752.here hx rfl (hb hby at_146) rfl (zXS_icmpYes X752.here hx rfl (pc0 := 148) (pc' := 153) rfl (hb hby at_148) rfl (XT.ii_eq_t (by decide)) (by decide) (by decide) (zXS_aload X752.here hx rfl (hb hby at_153) rfl rfl (zXS_iconst X752.here hx rfl (hb hby at_155) hr)))) ?_
    show Gl p.tables e below _ (T752.setTop (mkF m 156 #[.val (.long i0), .second, .val (.long i1), .second, .val (.long i2), .second, .val (.long i3), .second, .val (.int i4), .val (.int (2 : Int32)), .val (.ref b686), .val (.int (1 : Int32)), .val (.long i2), .second, .val (.long i2), .second, .val (.ref b748), .val (.ref r_752), .unset, .unset, .unset] [(.int (0 : Int32)), (.ref b748)]))
    have Vc765 := (V750.keep K752 nin0)
    obtain ⟨c766, a766, q766, s766, m766, H766, U766⟩ := id Vc765
    have i766 := inb_of s766 (j := (0 : Int32)) ⟨(by decide), (by decide)⟩
    refine g_laload Gl.cl X752 hx hZ (rfl : T752.heap = T752.heap) a766 i766 (v := (.long i3)) (H766.at i766 rfl) rfl rfl (hb hby at_156) ?_
    refine Gl.go (fun _ hr => zXT_lload X752.here hx rfl (hb hby at_157) rfl (zXT_lcmp X752.here hx rfl (hb hby at_159) rfl hr)) ?_
    refine Gl.go (fun _ hr => zXS_ifYes X752.here hx rfl (pc0 := 160) (pc' := 165) rfl (hb hby at_160) rfl (XT.ll_eq_t rfl) (by decide) (by decide) (zXS_iload X752.here hx rfl (hb hby at_165) rfl (zXS_iconst X752.here hx rfl (hb hby at_167) (zXS_icmpNo X752.here hx rfl (hb hby at_168) rfl (XT.ii_lt_f (by decide)) (zXS_aload X752.here hx rfl (hb hby at_171) rfl rfl (zXS_iconst X752.here hx rfl (hb hby at_173) hr)))))) ?_
    obtain ⟨c767, a767, q767, s767, m767, H767, U767⟩ := id f752_0
    have i767 := inb_of s767 (j := (0 : Int32)) ⟨(by decide), (by decide)⟩
    refine g_laload Gl.cl X752 hx hZ (rfl : T752.heap = T752.heap) a767 i767 (v := (.long i3)) (H767.at i767 rfl) rfl rfl (hb hby at_174) ?_
    refine Gl.go (fun _ hr => zXT_lload X752.here hx rfl (hb hby at_175) rfl (zXT_lcmp X752.here hx rfl (hb hby at_177) rfl hr)) ?_
    refine Gl.go (fun _ hr => zXS_ifYes X752.here hx rfl (pc0 := 178) (pc' := 183) rfl (hb hby at_178) rfl (XT.ll_eq_t rfl) (by decide) (by decide) (zXS_iload X752.here hx rfl (hb hby at_183) rfl (zXS_iconst X752.here hx rfl (hb hby at_185) (zXS_icmpYes X752.here hx rfl (pc0 := 186) (pc' := 204) rfl (hb hby at_186) rfl (XT.ii_lt_t (by decide)) (by decide) (by decide) (zXS_iload X752.here hx rfl (hb hby at_204) rfl (zXS_iconst X752.here hx rfl (hb hby at_206) (zXS_icmpYes X752.here hx rfl (pc0 := 207) (pc' := 228) rfl (hb hby at_207) rfl (XT.ii_lt_t (by decide)) (by decide) (by decide) (zXS_iload X752.here hx rfl (hb hby at_228) rfl (zXS_iconst X752.here hx rfl (hb hby at_230) (zXS_icmpNo X752.here hx rfl (hb hby at_231) rfl (XT.ii_lt_f (by decide)) hr)))))))))) ?_
    refine Gl.go (fun _ hr => zXS_iconst X752.here hx rfl (hb hby at_234) hr) ?_
    refine gNewPE Gl.cl X752 hx hZ (hw _ (List.mem_of_getElem? (i := 10) rfl)) (rfl : T752.heap = T752.heap) rfl (hb hby at_235) rfl (by decide) (cap := 1) (by decide) (by decide) (by decide) (by decide) (ad := "[J") (by decide) ?_
    intro T768 h768 b768 k768 g768 X768 e768 E768 A768 B768
    have z769 : T752.heap.size ≤ h768.size := E768.1
    have lt768 := own_alt A768.lt
    have V768 : Arv Z h768 b768 k768 .long (1 : Int32) [(.long (0 : Int64))] (.long (0 : Int64)) := (Arv.new A768 (by decide)).pad (pad_rep [] (.long (0 : Int64)) 1)
    refine Gl.go (fun _ hr => zXS_dup X768.here hx rfl (hb hby at_237) rfl rfl (zXS_iconst X768.here hx rfl (hb hby at_238) (zXT_lload X768.here hx rfl (hb hby at_239) rfl hr))) ?_
    obtain ⟨c770, a770, q770, s770, m770, H770, U770⟩ := id V768
    refine gstJ Gl.cl X768 hx hZ e768 a770 (j := (0 : Int32)) (inb_of s770 ⟨(by decide), (by decide)⟩) rfl rfl (hb hby at_241) ?_
    intro T770 h770 X770 e770 W770
    have z771 : h768.size ≤ h770.size := (Keep.of_wr W770).1
    have V770 : Arv Z h770 b768 k768 .long (1 : Int32) [(.long i3)] (.long (0 : Int64)) := Arv.set a770 q770 s770 m770 H770 U770 rfl W770 0 rfl (Nat.le_of_ble_eq_true rfl)
    have N770 := Fr.snoc X770 N752 (own_ale (by omega))
    refine Gl.go (fun _ hr => zXS_astore X770.here hx rfl (hb hby at_242) rfl rfl (l' := #[.val (.long i0), .second, .val (.long i1), .second, .val (.long i2), .second, .val (.long i3), .second, .val (.int i4), .val (.int (2 : Int32)), .val (.ref b686), .val (.int (1 : Int32)), .val (.long i2), .second, .val (.long i2), .second, .val (.ref b748), .val (.ref r_752), .val (.ref b768), .unset, .unset]) rfl (zXS_aload X770.here hx rfl (hb hby at_244) rfl rfl (zXS_aload X770.here hx rfl (hb hby at_246) rfl rfl hr))) ?_
    have Oc773 := (((((((((((Oc689.keep K688 (allS (own_ale (by omega)) all0)).keep K699 (allS (own_ale (by omega)) (allS (own_ale (by omega)) all0))).keep K709 (allS (own_ale (by omega)) (allS (own_ale (by omega)) all0))).keep K719 (allS (own_ale (by omega)) (allS (own_ale (by omega)) all0))).keep K729 (allS (own_ale (by omega)) all0)).keep K737 (allS (own_ale (by omega)) all0)).ext E748).wr W750 (own_ale (by omega))).keep K752 all0).ext E768).wr W770 (own_ale (by omega)))
    have Ec774 := (((Ec753.keep K752).ext E768).wr W770)
    have Fc775 := (((Fc754.keep K752 nin0).ext E768).other W770 (Or.inl (own_ane (by omega))))
    have Fc776 := (((Fc755.keep K752 nin0).ext E768).other W770 (Or.inl (own_ane (by omega))))
    have Fc777 := (((Fc756.keep K752 nin0).ext E768).other W770 (Or.inl (own_ane (by omega))))
    have Fc778 := (((Fc757.keep K752 nin0).ext E768).other W770 (Or.inl (own_ane (by omega))))
    have Fc779 := (((Fc758.keep K752 nin0).ext E768).other W770 (Or.inl (own_ane (by omega))))
    have Vc780 := (((Vc759.keep K752 nin0).ext E768).other W770 (own_ane (by omega)))
    have Vc781 := (((Vc760.keep K752 nin0).ext E768).other W770 (own_ane (by omega)))
    have zz772 : n0 ≤ h770.size := by omega
    refine gVirtualN Gl.cl (y := (⟨"com/example/evenkeel/evenkeel/sim/LaneLayouts", "layOut", "([J)J"⟩ : MethodName)) (z := (⟨"com/example/evenkeel/evenkeel/sim/LaneLayouts", "layOut", "([J)J"⟩ : MethodName)) (b := b686) (argsL := [(.ref b768)]) (rest := []) (mc := 0) (ms := 0) X770 hx hZ hown (mvT hZ (hw _ (List.mem_of_getElem? (i := 77) rfl))) (mvT hZ (hw _ (List.mem_of_getElem? (i := 78) rfl))) (notFace_of_selects (args := #[]) (mvT hZ (hw _ (List.mem_of_getElem? (i := 80) rfl)))) (mvT hZ (hw _ (List.mem_of_getElem? (i := 80) rfl))) (mvT hZ (hw _ (List.mem_of_getElem? (i := 79) rfl))) (by decide) Ec774 (backOf (W := 0) (lo2 l Z a0 hw [] b686 hob_688 hok_688 mb_688 mk_688 mv_688 i0 i1 i2 b768 k768 i3 h770 n0 zz772 Oc773 q1 Ec774 Fc775 Fc776 Fc777 Fc778 Fc779 Vc780 Vc781 V770 (by omega) (by omega) (by omega) (by omega)) hZ (hw _ (List.mem_of_getElem? (i := 81) rfl)) (hw _ (List.mem_of_getElem? (i := 3) rfl)) (by decide) (by decide)) rfl (by rw [hml]; rfl) (lenOf pd_10 rfl) rfl (by show 2 * 0 + _ ≤ _; exact Nat.le_of_eq rfl) (hb hby at_248) rfl e770 (by decide) (by decide) ?_
    intro v772 T772 Lc772 hQ772 X772
    obtain ⟨rfl, Nq772, K772, f772_0⟩ := hQ772
    have z782 : h770.size ≤ T772.heap.size := K772.1
    have N772 := Fr.app N770 Nq772
    have lt783 := own_alt f772_0.lt
    refine Gl.go (fun _ hr => zXT_lstore X772.here hx rfl (hb hby at_251) rfl (l' := #[.val (.long i0), .second, .val (.long i1), .second, .val (.long i2), .second, .val (.long i3), .second, .val (.int i4), .val (.int (2 : Int32)), .val (.ref b686), .val (.int (1 : Int32)), .val (.long i2), .second, .val (.long i2), .second, .val (.ref b748), .val (.ref r_752), .val (.ref b768), .val (.long i3), .second]) rfl (zXT_lload X772.here hx rfl (hb hby at_253) rfl (zXS_aload X772.here hx rfl (hb hby at_255) rfl rfl (zXS_iload X772.here hx rfl (hb hby at_257) rfl (zXS_iconst X772.here hx rfl (hb hby at_259) (zXS_isub X772.here hx rfl (hb hby at_260) rfl hr)))))) ?_
    have Vc784 := (((f752_0.ext E768).other W770 (own_ane (by omega))).keep K772 (ninS (own_ane (by omega)) nin0))
    obtain ⟨c785, a785, q785, s785, m785, H785, U785⟩ := id Vc784
    have i785 := inb_of s785 (j := (0 : Int32)) ⟨(by decide), (by decide)⟩
    refine g_laload Gl.cl X772 hx hZ (rfl : T772.heap = T772.heap) a785 i785 (v := (.long i3)) (H785.at i785 rfl) rfl rfl (hb hby at_261) ?_
    refine Gl.go (fun _ hr => zXT_lcmp X772.here hx rfl (hb hby at_262) rfl hr) ?_
    refine Gl.go (fun _ hr => zXS_ifYes X772.here hx rfl (pc0 := 263) (pc' := 268) rfl (hb hby at_263) rfl (XT.ll_eq_t rfl) (by decide) (by decide) (zXS_aload X772.here hx rfl (hb hby at_268) rfl rfl (zXS_iconst X772.here hx rfl (hb hby at_270) hr))) ?_
    obtain ⟨c786, a786, q786, s786, m786, H786, U786⟩ := id f772_0
    have i786 := inb_of s786 (j := (0 : Int32)) ⟨(by decide), (by decide)⟩
    refine g_laload Gl.cl X772 hx hZ (rfl : T772.heap = T772.heap) a786 i786 (v := (.long (i3 + i2))) (H786.at i786 rfl) rfl rfl (hb hby at_271) ?_
    refine Gl.go (fun _ hr => zXS_aload X772.here hx rfl (hb hby at_272) rfl rfl (zXS_iload X772.here hx rfl (hb hby at_274) rfl (zXS_iconst X772.here hx rfl (hb hby at_276) (zXS_isub X772.here hx rfl (hb hby at_277) rfl hr)))) ?_
    obtain ⟨c787, a787, q787, s787, m787, H787, U787⟩ := id Vc784
    have i787 := inb_of s787 (j := (0 : Int32)) ⟨(by decide), (by decide)⟩
    refine g_laload Gl.cl X772 hx hZ (rfl : T772.heap = T772.heap) a787 i787 (v := (.long i3)) (H787.at i787 rfl) rfl rfl (hb hby at_278) ?_
    refine Gl.go (fun _ hr => zXT_lload X772.here hx rfl (hb hby at_279) rfl (zXT_ladd X772.here hx rfl (hb hby at_281) rfl (zXT_lcmp X772.here hx rfl (hb hby at_282) rfl hr))) ?_
    refine Gl.go (fun _ hr => zXS_ifYes X772.here hx rfl (pc0 := 283) (pc' := 288) rfl (hb hby at_283) rfl (XT.ll_eq_t rfl) (by decide) (by decide) (zXS_iconst X772.here hx rfl (hb hby at_288) hr)) ?_
    obtain ⟨fs, hr, hrun, hended, hW, hsame⟩ := X772.leave (v := some (.int (1 : Int32))) (fun h => by rw [Bd.returns] at h; cases h)
    refine ⟨_, _, retN X772 hx (t := .boolean) Bd.returns (by simp) (hb hby at_289) hr, hrun, hended, _, _, rfl, ?_, ⟨⟨_, rfl⟩, hW, hsame.mono (by decide) (by decide)⟩⟩
    show Qlawrm Z i0 i1 i2 i3 i4 h0 n0 _ T772.heap _
    exact ⟨rfl, N772, ((((((((((((((Keep.refl h0 []).ext E686).trans K688 (allS (P := fun x_ => x_ ∈ ([] : List Addr) ∨ h0.size ≤ x_) (Or.inr (own_ale (by omega))) all0)).trans K699 (allS (P := fun x_ => x_ ∈ ([] : List Addr) ∨ h0.size ≤ x_) (Or.inr (own_ale (by omega))) (allS (P := fun x_ => x_ ∈ ([] : List Addr) ∨ h0.size ≤ x_) (Or.inr (own_ale (by omega))) all0))).trans K709 (allS (P := fun x_ => x_ ∈ ([] : List Addr) ∨ h0.size ≤ x_) (Or.inr (own_ale (by omega))) (allS (P := fun x_ => x_ ∈ ([] : List Addr) ∨ h0.size ≤ x_) (Or.inr (own_ale (by omega))) all0))).trans K719 (allS (P := fun x_ => x_ ∈ ([] : List Addr) ∨ h0.size ≤ x_) (Or.inr (own_ale (by omega))) (allS (P := fun x_ => x_ ∈ ([] : List Addr) ∨ h0.size ≤ x_) (Or.inr (own_ale (by omega))) all0))).trans K729 (allS (P := fun x_ => x_ ∈ ([] : List Addr) ∨ h0.size ≤ x_) (Or.inr (own_ale (by omega))) all0)).trans K737 (allS (P := fun x_ => x_ ∈ ([] : List Addr) ∨ h0.size ≤ x_) (Or.inr (own_ale (by omega))) all0)).ext E748).wr W750 (Or.inr (own_ale (by omega)))).trans K752 all0).ext E768).wr W770 (Or.inr (own_ale (by omega)))).trans K772 (allS (P := fun x_ => x_ ∈ ([] : List Addr) ∨ h0.size ≤ x_) (Or.inr (own_ale (by omega))) all0))⟩
  · subst hq
    show Gl p.tables e below _ (s₁.setTop (mkF m 7 #[.val (.long i0), .second, .val (.long i1), .second, .val (.long i2), .second, .val (.long i3), .second, .val (.int i4), .unset, .unset, .unset, .unset, .unset, .unset, .unset, .unset, .unset, .unset, .unset, .unset] [(.int (3 : Int32))]))
    refine Gl.go (fun _ hr => zXS_istore X0.here hx rfl (hb hby at_7) rfl (l' := #[.val (.long i0), .second, .val (.long i1), .second, .val (.long i2), .second, .val (.long i3), .second, .val (.int i4), .val (.int (3 : Int32)), .unset, .unset, .unset, .unset, .unset, .unset, .unset, .unset, .unset, .unset, .unset]) rfl hr) ?_
    refine gNew Gl.cl X0 hx hZ hown (hw _ (List.mem_of_getElem? (i := 1) rfl)) (hw _ (List.mem_of_getElem? (i := 2) rfl)) (hw _ (List.mem_of_getElem? (i := 3) rfl)) e0 rfl (hb hby at_9) (by decide) (by decide) ?_
    intro T788 h788 b788 g788 X788 e788 E788 A788 D788
    have z789 : h0.size ≤ h788.size := E788.1
    have lt788 := own_alt A788.lt
    have F788_holds : Fld Z h788 b788 "com/example/evenkeel/evenkeel/sim/LaneLayouts" "holds" "[J" .null := D788 (Or.inl (hw _ (List.mem_of_getElem? (i := 12) rfl))) (ty := (.array .long)) (by decide)
    have F788_memories : Fld Z h788 b788 "com/example/evenkeel/evenkeel/sim/LaneLayouts" "memories" "[[Lcom/example/evenkeel/evenkeel/sim/LaneLayouts$Memory;" .null := D788 (Or.inl (hw _ (List.mem_of_getElem? (i := 17) rfl))) (ty := (.array (.array (.object "com/example/evenkeel/evenkeel/sim/LaneLayouts$Memory")))) (by decide)
    have F788_apart : Fld Z h788 b788 "com/example/evenkeel/evenkeel/sim/LaneLayouts" "apart" "[[J" .null := D788 (Or.inr (hw _ (List.mem_of_getElem? (i := 23) rfl))) (ty := (.array (.array .long))) (by decide)
    have F788_end : Fld Z h788 b788 "com/example/evenkeel/evenkeel/sim/LaneLayouts" "end" "I" (.int (0 : Int32)) := D788 (Or.inl (hw _ (List.mem_of_getElem? (i := 30) rfl))) (ty := .int) (by decide)
    have F788_base : Fld Z h788 b788 "com/example/evenkeel/evenkeel/sim/LaneLayouts" "base" "I" (.int (0 : Int32)) := D788 (Or.inl (hw _ (List.mem_of_getElem? (i := 32) rfl))) (ty := .int) (by decide)
    have F788_first : Fld Z h788 b788 "com/example/evenkeel/evenkeel/sim/LaneLayouts" "first" "I" (.int (0 : Int32)) := D788 (Or.inl (hw _ (List.mem_of_getElem? (i := 39) rfl))) (ty := .int) (by decide)
    refine Gl.go (fun _ hr => zXS_dup X788.here hx rfl (hb hby at_12) rfl rfl hr) ?_
    have Oc791 := (q0.ext E788)
    have zz790 : n0 ≤ h788.size := by omega
    refine gSpecialN Gl.cl (y := (⟨"com/example/evenkeel/evenkeel/sim/LaneLayouts", "<init>", "()V"⟩ : MethodName)) (b := b788) (argsL := []) (rest := [(.ref b788)]) (mc := 30) (ms := 323) X788 hx hZ hown rfl (mvT hZ (hw _ (List.mem_of_getElem? (i := 4) rfl))) (mvT hZ (hw _ (List.mem_of_getElem? (i := 5) rfl))) (mvT hZ (hw _ (List.mem_of_getElem? (i := 6) rfl))) (by decide) (backOf (W := 1) (ini l Z a0 hw [] b788 h788 n0 zz790 Oc791 q1 (by omega) A788 F788_holds F788_base F788_first F788_end F788_memories F788_apart) hZ (hw _ (List.mem_of_getElem? (i := 6) rfl)) (hw _ (List.mem_of_getElem? (i := 3) rfl)) (by decide) (by decide)) rfl (by rw [hml]; rfl) (lenOf pd_7 rfl) rfl (by show 2 * 0 + _ ≤ _; exact Nat.le_of_eq rfl) (hb hby at_13) rfl e788 (by decide) (by decide) ?_
    intro v790 T790 Lc790 hQ790 X790
    obtain ⟨hob_790, hok_790, mb_790, mk_790, mv_790, rfl, Nq790, K790, f790_0, f790_1, f790_2, f790_3, f790_4, f790_5, f790_6, f790_7, f790_8, f790_9, f790_10, f790_11, f790_12⟩ := hQ790
    have z792 : h788.size ≤ T790.heap.size := K790.1
    have N790 := Fr.app N0 Nq790
    have lt793 := own_alt f790_0.lt
    have lt794 := own_alt f790_1.lt
    have lt795 := own_alt f790_2.lt
    have lt796 := own_alt f790_3.lt
    have lt797 := own_alt f790_4.lt
    have lt798 := own_alt f790_5.lt
    have lt799 := own_alt f790_6.lt
    have lt800 := own_alt f790_7.lt
    refine Gl.go (fun _ hr => zXS_astore X790.here hx rfl (hb hby at_16) rfl rfl (l' := #[.val (.long i0), .second, .val (.long i1), .second, .val (.long i2), .second, .val (.long i3), .second, .val (.int i4), .val (.int (3 : Int32)), .val (.ref b788), .unset, .unset, .unset, .unset, .unset, .unset, .unset, .unset, .unset, .unset]) rfl (zXS_aload X790.here hx rfl (hb hby at_18) rfl rfl (zXT_lloadN X790.here hx rfl (hb hby at_20) rfl hr))) ?_
    have zz801 : n0 ≤ T790.heap.size := by omega
    refine gVirtualN Gl.cl (y := (⟨"com/example/evenkeel/evenkeel/sim/LaneLayouts", "append", "(J)V"⟩ : MethodName)) (z := (⟨"com/example/evenkeel/evenkeel/sim/LaneLayouts", "append", "(J)V"⟩ : MethodName)) (b := b788) (argsL := [(.long i0)]) (rest := []) (mc := 0) (ms := 0) X790 hx hZ hown (mvT hZ (hw _ (List.mem_of_getElem? (i := 24) rfl))) (mvT hZ (hw _ (List.mem_of_getElem? (i := 25) rfl))) (notFace_of_selects (args := #[]) (mvT hZ (hw _ (List.mem_of_getElem? (i := 27) rfl)))) (mvT hZ (hw _ (List.mem_of_getElem? (i := 27) rfl))) (mvT hZ (hw _ (List.mem_of_getElem? (i := 26) rfl))) (by decide) f790_0 (backOf (W := 0) (ap0 l Z a0 hw [] b788 hob_790 hok_790 mb_790 mk_790 mv_790 (0 : Int64) (0 : Int64) (0 : Int64) i0 T790.heap n0 zz801 f790_0 f790_1 f790_2 f790_3 f790_4 f790_5 f790_6 f790_7 (by omega) (by omega) (by omega) (by omega) (by omega)) hZ (hw _ (List.mem_of_getElem? (i := 28) rfl)) (hw _ (List.mem_of_getElem? (i := 3) rfl)) (by decide) (by decide)) rfl (by rw [hml]; rfl) (lenOf pd_8 rfl) rfl (by show 2 * 0 + _ ≤ _; exact Nat.le_of_eq rfl) (hb hby at_21) rfl (rfl : T790.heap = T790.heap) (by decide) (by decide) ?_
    intro v801 T801 Lc801 hQ801 X801
    obtain ⟨rfl, Nq801, K801, f801_0, f801_1, f801_2, f801_3, f801_4, f801_5, f801_6, f801_7⟩ := hQ801
    have z802 : T790.heap.size ≤ T801.heap.size := K801.1
    have N801 := Fr.app N790 Nq801
    have lt803 := own_alt f801_0.lt
    have lt804 := own_alt f801_1.lt
    have lt805 := own_alt f801_2.lt
    have lt806 := own_alt f801_3.lt
    have lt807 := own_alt f801_4.lt
    have lt808 := own_alt f801_5.lt
    have lt809 := own_alt f801_6.lt
    have lt810 := own_alt f801_7.lt
    refine Gl.go (fun _ hr => zXS_aload X801.here hx rfl (hb hby at_24) rfl rfl (zXT_lloadN X801.here hx rfl (hb hby at_26) rfl hr)) ?_
    have zz811 : n0 ≤ T801.heap.size := by omega
    refine gVirtualN Gl.cl (y := (⟨"com/example/evenkeel/evenkeel/sim/LaneLayouts", "append", "(J)V"⟩ : MethodName)) (z := (⟨"com/example/evenkeel/evenkeel/sim/LaneLayouts", "append", "(J)V"⟩ : MethodName)) (b := b788) (argsL := [(.long i1)]) (rest := []) (mc := 0) (ms := 0) X801 hx hZ hown (mvT hZ (hw _ (List.mem_of_getElem? (i := 24) rfl))) (mvT hZ (hw _ (List.mem_of_getElem? (i := 25) rfl))) (notFace_of_selects (args := #[]) (mvT hZ (hw _ (List.mem_of_getElem? (i := 27) rfl)))) (mvT hZ (hw _ (List.mem_of_getElem? (i := 27) rfl))) (mvT hZ (hw _ (List.mem_of_getElem? (i := 26) rfl))) (by decide) f801_0 (backOf (W := 0) (ap1 l Z a0 hw [] b788 hob_790 hok_790 mb_790 mk_790 mv_790 i0 (0 : Int64) (0 : Int64) i1 T801.heap n0 zz811 f801_0 f801_1 f801_2 f801_3 f801_4 f801_5 f801_6 f801_7 (by omega) (by omega) (by omega) (by omega) (by omega)) hZ (hw _ (List.mem_of_getElem? (i := 28) rfl)) (hw _ (List.mem_of_getElem? (i := 3) rfl)) (by decide) (by decide)) rfl (by rw [hml]; rfl) (lenOf pd_8 rfl) rfl (by show 2 * 0 + _ ≤ _; exact Nat.le_of_eq rfl) (hb hby at_27) rfl (rfl : T801.heap = T801.heap) (by decide) (by decide) ?_
    intro v811 T811 Lc811 hQ811 X811
    obtain ⟨rfl, Nq811, K811, f811_0, f811_1, f811_2, f811_3, f811_4, f811_5, f811_6, f811_7⟩ := hQ811
    have z812 : T801.heap.size ≤ T811.heap.size := K811.1
    have N811 := Fr.app N801 Nq811
    have lt813 := own_alt f811_0.lt
    have lt814 := own_alt f811_1.lt
    have lt815 := own_alt f811_2.lt
    have lt816 := own_alt f811_3.lt
    have lt817 := own_alt f811_4.lt
    have lt818 := own_alt f811_5.lt
    have lt819 := own_alt f811_6.lt
    have lt820 := own_alt f811_7.lt
    refine Gl.go (fun _ hr => zXS_aload X811.here hx rfl (hb hby at_30) rfl rfl (zXT_lload X811.here hx rfl (hb hby at_32) rfl hr)) ?_
    have zz821 : n0 ≤ T811.heap.size := by omega
    refine gVirtualN Gl.cl (y := (⟨"com/example/evenkeel/evenkeel/sim/LaneLayouts", "append", "(J)V"⟩ : MethodName)) (z := (⟨"com/example/evenkeel/evenkeel/sim/LaneLayouts", "append", "(J)V"⟩ : MethodName)) (b := b788) (argsL := [(.long i2)]) (rest := []) (mc := 0) (ms := 0) X811 hx hZ hown (mvT hZ (hw _ (List.mem_of_getElem? (i := 24) rfl))) (mvT hZ (hw _ (List.mem_of_getElem? (i := 25) rfl))) (notFace_of_selects (args := #[]) (mvT hZ (hw _ (List.mem_of_getElem? (i := 27) rfl)))) (mvT hZ (hw _ (List.mem_of_getElem? (i := 27) rfl))) (mvT hZ (hw _ (List.mem_of_getElem? (i := 26) rfl))) (by decide) f811_0 (backOf (W := 0) (ap2 l Z a0 hw [] b788 hob_790 hok_790 mb_790 mk_790 mv_790 i0 i1 (0 : Int64) i2 T811.heap n0 zz821 f811_0 f811_1 f811_2 f811_3 f811_4 f811_5 f811_6 f811_7 (by omega) (by omega) (by omega) (by omega) (by omega)) hZ (hw _ (List.mem_of_getElem? (i := 28) rfl)) (hw _ (List.mem_of_getElem? (i := 3) rfl)) (by decide) (by decide)) rfl (by rw [hml]; rfl) (lenOf pd_8 rfl) rfl (by show 2 * 0 + _ ≤ _; exact Nat.le_of_eq rfl) (hb hby at_34) rfl (rfl : T811.heap = T811.heap) (by decide) (by decide) ?_
    intro v821 T821 Lc821 hQ821 X821
    obtain ⟨rfl, Nq821, K821, f821_0, f821_1, f821_2, f821_3, f821_4, f821_5, f821_6, f821_7⟩ := hQ821
    have z822 : T811.heap.size ≤ T821.heap.size := K821.1
    have N821 := Fr.app N811 Nq821
    have lt823 := own_alt f821_0.lt
    have lt824 := own_alt f821_1.lt
    have lt825 := own_alt f821_2.lt
    have lt826 := own_alt f821_3.lt
    have lt827 := own_alt f821_4.lt
    have lt828 := own_alt f821_5.lt
    have lt829 := own_alt f821_6.lt
    have lt830 := own_alt f821_7.lt
    refine Gl.go (fun _ hr => zXS_iload X821.here hx rfl (hb hby at_37) rfl (zXS_iconst X821.here hx rfl (hb hby at_39) (zXS_icmpNo X821.here hx rfl (hb hby at_40) rfl (XT.ii_lt_f (by decide)) (zXS_aload X821.here hx rfl (hb hby at_43) rfl rfl hr)))) ?_
    have zz831 : n0 ≤ T821.heap.size := by omega
    refine gVirtualN Gl.cl (y := (⟨"com/example/evenkeel/evenkeel/sim/LaneLayouts", "dropFirst", "()V"⟩ : MethodName)) (z := (⟨"com/example/evenkeel/evenkeel/sim/LaneLayouts", "dropFirst", "()V"⟩ : MethodName)) (b := b788) (argsL := []) (rest := []) (mc := 0) (ms := 0) X821 hx hZ hown (mvT hZ (hw _ (List.mem_of_getElem? (i := 33) rfl))) (mvT hZ (hw _ (List.mem_of_getElem? (i := 34) rfl))) (notFace_of_selects (args := #[]) (mvT hZ (hw _ (List.mem_of_getElem? (i := 36) rfl)))) (mvT hZ (hw _ (List.mem_of_getElem? (i := 36) rfl))) (mvT hZ (hw _ (List.mem_of_getElem? (i := 35) rfl))) (by decide) f821_0 (backOf (W := 0) (dr0 l Z a0 hw [] b788 hob_790 hok_790 mb_790 mk_790 mv_790 i0 i1 i2 T821.heap n0 zz831 f821_0 f821_1 f821_2 f821_3 f821_4 f821_5 f821_6 f821_7 (by omega) (by omega) (by omega) (by omega) (by omega)) hZ (hw _ (List.mem_of_getElem? (i := 37) rfl)) (hw _ (List.mem_of_getElem? (i := 3) rfl)) (by decide) (by decide)) rfl (by rw [hml]; rfl) (lenOf pd_7 rfl) rfl (by show 2 * 0 + _ ≤ _; exact Nat.le_of_eq rfl) (hb hby at_45) rfl (rfl : T821.heap = T821.heap) (by decide) (by decide) ?_
    intro v831 T831 Lc831 hQ831 X831
    obtain ⟨rfl, Nq831, K831, f831_0, f831_1, f831_2, f831_3, f831_4, f831_5⟩ := hQ831
    have z832 : T821.heap.size ≤ T831.heap.size := K831.1
    have N831 := Fr.app N821 Nq831
    have lt833 := own_alt f831_0.lt
    have lt834 := own_alt f831_1.lt
    have lt835 := own_alt f831_2.lt
    have lt836 := own_alt f831_3.lt
    have lt837 := own_alt f831_4.lt
    have lt838 := own_alt f831_5.lt
    refine Gl.go (fun _ hr => zXS_iload X831.here hx rfl (hb hby at_48) rfl (zXS_iconst X831.here hx rfl (hb hby at_50) (zXS_icmpNo X831.here hx rfl (hb hby at_51) rfl (XT.ii_lt_f (by decide)) (zXS_aload X831.here hx rfl (hb hby at_54) rfl rfl hr)))) ?_
    have Vc840 := (f821_6.keep K831 (ninS (own_ane (by omega)) nin0))
    have Vc841 := (f821_7.keep K831 (ninS (own_ane (by omega)) nin0))
    have zz839 : n0 ≤ T831.heap.size := by omega
    refine gVirtualN Gl.cl (y := (⟨"com/example/evenkeel/evenkeel/sim/LaneLayouts", "dropFirst", "()V"⟩ : MethodName)) (z := (⟨"com/example/evenkeel/evenkeel/sim/LaneLayouts", "dropFirst", "()V"⟩ : MethodName)) (b := b788) (argsL := []) (rest := []) (mc := 0) (ms := 0) X831 hx hZ hown (mvT hZ (hw _ (List.mem_of_getElem? (i := 33) rfl))) (mvT hZ (hw _ (List.mem_of_getElem? (i := 34) rfl))) (notFace_of_selects (args := #[]) (mvT hZ (hw _ (List.mem_of_getElem? (i := 36) rfl)))) (mvT hZ (hw _ (List.mem_of_getElem? (i := 36) rfl))) (mvT hZ (hw _ (List.mem_of_getElem? (i := 35) rfl))) (by decide) f831_0 (backOf (W := 0) (dr1 l Z a0 hw [] b788 hob_790 hok_790 mb_790 mk_790 mv_790 i0 i1 i2 T831.heap n0 zz839 f831_0 f831_1 f831_2 f831_3 f831_4 f831_5 Vc840 Vc841 (by omega) (by omega) (by omega) (by omega) (by omega)) hZ (hw _ (List.mem_of_getElem? (i := 37) rfl)) (hw _ (List.mem_of_getElem? (i := 3) rfl)) (by decide) (by decide)) rfl (by rw [hml]; rfl) (lenOf pd_7 rfl) rfl (by show 2 * 0 + _ ≤ _; exact Nat.le_of_eq rfl) (hb hby at_56) rfl (rfl : T831.heap = T831.heap) (by decide) (by decide) ?_
    intro v839 T839 Lc839 hQ839 X839
    obtain ⟨rfl, Nq839, K839, f839_0, f839_1, f839_2, f839_3, f839_4, f839_5⟩ := hQ839
    have z842 : T831.heap.size ≤ T839.heap.size := K839.1
    have N839 := Fr.app N831 Nq839
    have lt843 := own_alt f839_0.lt
    have lt844 := own_alt f839_1.lt
    have lt845 := own_alt f839_2.lt
    have lt846 := own_alt f839_3.lt
    have lt847 := own_alt f839_4.lt
    have lt848 := own_alt f839_5.lt
    refine Gl.go (fun _ hr => zXS_iload X839.here hx rfl (hb hby at_59) rfl (zXS_iconst X839.here hx rfl (hb hby at_61) (zXS_icmpNo X839.here hx rfl (hb hby at_62) rfl (XT.ii_lt_f (by decide)) (zXS_aload X839.here hx rfl (hb hby at_65) rfl rfl hr)))) ?_
    have Vc850 := (Vc840.keep K839 (ninS (own_ane (by omega)) nin0))
    have Vc851 := (Vc841.keep K839 (ninS (own_ane (by omega)) nin0))
    have zz849 : n0 ≤ T839.heap.size := by omega
    refine gVirtualN Gl.cl (y := (⟨"com/example/evenkeel/evenkeel/sim/LaneLayouts", "dropFirst", "()V"⟩ : MethodName)) (z := (⟨"com/example/evenkeel/evenkeel/sim/LaneLayouts", "dropFirst", "()V"⟩ : MethodName)) (b := b788) (argsL := []) (rest := []) (mc := 0) (ms := 0) X839 hx hZ hown (mvT hZ (hw _ (List.mem_of_getElem? (i := 33) rfl))) (mvT hZ (hw _ (List.mem_of_getElem? (i := 34) rfl))) (notFace_of_selects (args := #[]) (mvT hZ (hw _ (List.mem_of_getElem? (i := 36) rfl)))) (mvT hZ (hw _ (List.mem_of_getElem? (i := 36) rfl))) (mvT hZ (hw _ (List.mem_of_getElem? (i := 35) rfl))) (by decide) f839_0 (backOf (W := 0) (dr2 l Z a0 hw [] b788 hob_790 hok_790 mb_790 mk_790 mv_790 i0 i1 i2 T839.heap n0 zz849 f839_0 f839_1 f839_2 f839_3 f839_4 f839_5 Vc850 Vc851 (by omega) (by omega) (by omega) (by omega) (by omega)) hZ (hw _ (List.mem_of_getElem? (i := 37) rfl)) (hw _ (List.mem_of_getElem? (i := 3) rfl)) (by decide) (by decide)) rfl (by rw [hml]; rfl) (lenOf pd_7 rfl) rfl (by show 2 * 0 + _ ≤ _; exact Nat.le_of_eq rfl) (hb hby at_67) rfl (rfl : T839.heap = T839.heap) (by decide) (by decide) ?_
    intro v849 T849 Lc849 hQ849 X849
    obtain ⟨rfl, Nq849, K849, f849_0, f849_1, f849_2, f849_3, f849_4, f849_5⟩ := hQ849
    have z852 : T839.heap.size ≤ T849.heap.size := K849.1
    have N849 := Fr.app N839 Nq849
    have lt853 := own_alt f849_0.lt
    have lt854 := own_alt f849_1.lt
    have lt855 := own_alt f849_2.lt
    have lt856 := own_alt f849_3.lt
    have lt857 := own_alt f849_4.lt
    have lt858 := own_alt f849_5.lt
    refine Gl.go (fun _ hr => zXS_iconst X849.here hx rfl (hb hby at_70) (zXS_iload X849.here hx rfl (hb hby at_71) rfl (zXS_isub X849.here hx rfl (hb hby at_73) rfl (zXS_istore X849.here hx rfl (hb hby at_74) rfl (l' := #[.val (.long i0), .second, .val (.long i1), .second, .val (.long i2), .second, .val (.long i3), .second, .val (.int i4), .val (.int (3 : Int32)), .val (.ref b788), .val (.int (0 : Int32)), .unset, .unset, .unset, .unset, .unset, .unset, .unset, .unset, .unset]) rfl (zXS_aload X849.here hx rfl (hb hby at_76) rfl rfl hr))))) ?_
    have zz859 : n0 ≤ T849.heap.size := by omega
    refine gVirtualN Gl.cl (y := (⟨"com/example/evenkeel/evenkeel/sim/LaneLayouts", "size", "()I"⟩ : MethodName)) (z := (⟨"com/example/evenkeel/evenkeel/sim/LaneLayouts", "size", "()I"⟩ : MethodName)) (b := b788) (argsL := []) (rest := []) (mc := 0) (ms := 0) X849 hx hZ hown (mvT hZ (hw _ (List.mem_of_getElem? (i := 40) rfl))) (mvT hZ (hw _ (List.mem_of_getElem? (i := 41) rfl))) (notFace_of_selects (args := #[]) (mvT hZ (hw _ (List.mem_of_getElem? (i := 43) rfl)))) (mvT hZ (hw _ (List.mem_of_getElem? (i := 43) rfl))) (mvT hZ (hw _ (List.mem_of_getElem? (i := 42) rfl))) (by decide) f849_0 (backOf (W := 0) (sz3 l Z a0 hw [] b788 T849.heap n0 zz859 f849_4 f849_3) hZ (hw _ (List.mem_of_getElem? (i := 44) rfl)) (hw _ (List.mem_of_getElem? (i := 3) rfl)) (by decide) (by decide)) rfl (by rw [hml]; rfl) (lenOf pd_4 rfl) rfl (by show 2 * 0 + _ ≤ _; exact Nat.le_of_eq rfl) (hb hby at_78) rfl (rfl : T849.heap = T849.heap) (by decide) (by decide) ?_
    intro v859 T859 Lc859 hQ859 X859
    obtain ⟨rfl, Nq859, e859⟩ := hQ859
    have N859 := Fr.app N849 Nq859
    refine Gl.go (fun _ hr => zXS_iload X859.here hx rfl (hb hby at_81) rfl (zXS_icmpYes X859.here hx rfl (pc0 := 83) (pc' := 88) rfl (hb hby at_83) rfl (XT.ii_eq_t (by decide)) (by decide) (by decide) (zXS_iload X859.here hx rfl (hb hby at_88) rfl (zXS_ifYes X859.here hx rfl (pc0 := 90) (pc' := 97) rfl (hb hby at_90) rfl (XT.i0_ne_t (by decide)) (by decide) (by decide) (zXS_iload X859.here hx rfl (hb hby at_97) rfl (zXS_iconst X859.here hx rfl (hb hby at_99) (zXS_icmpYes X859.here hx rfl (pc0 := 100) (pc' := 107) rfl (hb hby at_100) rfl (XT.ii_ne_t (by decide)) (by decide) (by decide) (zXT_lload X859.here hx rfl (hb hby at_107) rfl (zXT_lstore X859.here hx rfl (hb hby at_109) rfl (l' := #[.val (.long i0), .second, .val (.long i1), .second, .val (.long i2), .second, .val (.long i3), .second, .val (.int i4), .val (.int (3 : Int32)), .val (.ref b788), .val (.int (0 : Int32)), .val (.long i2), .second, .unset, .unset, .unset, .unset, .unset, .unset, .unset]) rfl (zXS_iload X859.here hx rfl (hb hby at_111) rfl hr)))))))))) ?_
    refine Gl.go (fun _ hr => zXS_ifYes X859.here hx rfl (pc0 := 113) (pc' := 120) rfl (hb hby at_113) rfl (XT.i0_ne_t (by decide)) (by decide) (by decide) (zXT_lload X859.here hx rfl (hb hby at_120) rfl (zXT_lstore X859.here hx rfl (hb hby at_122) rfl (l' := #[.val (.long i0), .second, .val (.long i1), .second, .val (.long i2), .second, .val (.long i3), .second, .val (.int i4), .val (.int (3 : Int32)), .val (.ref b788), .val (.int (0 : Int32)), .val (.long i2), .second, .val (.long i2), .second, .unset, .unset, .unset, .unset, .unset]) rfl (zXS_iconst X859.here hx rfl (hb hby at_124) hr)))) ?_
    refine gNewPE Gl.cl X859 hx hZ (hw _ (List.mem_of_getElem? (i := 10) rfl)) e859 rfl (hb hby at_125) rfl (by decide) (cap := 1) (by decide) (by decide) (by decide) (by decide) (ad := "[J") (by decide) ?_
    intro T860 h860 b860 k860 g860 X860 e860 E860 A860 B860
    have z861 : T849.heap.size ≤ h860.size := E860.1
    have lt860 := own_alt A860.lt
    have V860 : Arv Z h860 b860 k860 .long (1 : Int32) [(.long (0 : Int64))] (.long (0 : Int64)) := (Arv.new A860 (by decide)).pad (pad_rep [] (.long (0 : Int64)) 1)
    refine Gl.go (fun _ hr => zXS_dup X860.here hx rfl (hb hby at_127) rfl rfl (zXS_iconst X860.here hx rfl (hb hby at_128) (zXT_lload X860.here hx rfl (hb hby at_129) rfl hr))) ?_
    obtain ⟨c862, a862, q862, s862, m862, H862, U862⟩ := id V860
    refine gstJ Gl.cl X860 hx hZ e860 a862 (j := (0 : Int32)) (inb_of s862 ⟨(by decide), (by decide)⟩) rfl rfl (hb hby at_131) ?_
    intro T862 h862 X862 e862 W862
    have z863 : h860.size ≤ h862.size := (Keep.of_wr W862).1
    have V862 : Arv Z h862 b860 k860 .long (1 : Int32) [(.long i3)] (.long (0 : Int64)) := Arv.set a862 q862 s862 m862 H862 U862 rfl W862 0 rfl (Nat.le_of_ble_eq_true rfl)
    have N862 := Fr.snoc X862 N859 (own_ale (by omega))
    refine Gl.go (fun _ hr => zXS_astore X862.here hx rfl (hb hby at_132) rfl rfl (l' := #[.val (.long i0), .second, .val (.long i1), .second, .val (.long i2), .second, .val (.long i3), .second, .val (.int i4), .val (.int (3 : Int32)), .val (.ref b788), .val (.int (0 : Int32)), .val (.long i2), .second, .val (.long i2), .second, .val (.ref b860), .unset, .unset, .unset, .unset]) rfl (zXS_aload X862.here hx rfl (hb hby at_134) rfl rfl (zXS_aload X862.here hx rfl (hb hby at_136) rfl rfl hr))) ?_
    have Ec865 := ((f849_0.ext E860).wr W862)
    have Fc866 := ((f849_1.ext E860).other W862 (Or.inl (own_ane (by omega))))
    have Fc867 := ((f849_2.ext E860).other W862 (Or.inl (own_ane (by omega))))
    have Fc868 := ((f849_3.ext E860).other W862 (Or.inl (own_ane (by omega))))
    have Fc869 := ((f849_4.ext E860).other W862 (Or.inl (own_ane (by omega))))
    have Fc870 := ((f849_5.ext E860).other W862 (Or.inl (own_ane (by omega))))
    have Vc871 := (((Vc850.keep K849 (ninS (own_ane (by omega)) nin0)).ext E860).other W862 (own_ane (by omega)))
    have Vc872 := (((Vc851.keep K849 (ninS (own_ane (by omega)) nin0)).ext E860).other W862 (own_ane (by omega)))
    have Ec873 := (B860.wr W862)
    have zz864 : n0 ≤ h862.size := by omega
    refine gVirtualN Gl.cl (y := (⟨"com/example/evenkeel/evenkeel/sim/LaneLayouts", "starts", "([J)[J"⟩ : MethodName)) (z := (⟨"com/example/evenkeel/evenkeel/sim/LaneLayouts", "starts", "([J)[J"⟩ : MethodName)) (b := b788) (argsL := [(.ref b860)]) (rest := []) (mc := 2) (ms := 1) X862 hx hZ hown (mvT hZ (hw _ (List.mem_of_getElem? (i := 45) rfl))) (mvT hZ (hw _ (List.mem_of_getElem? (i := 46) rfl))) (notFace_of_selects (args := #[]) (mvT hZ (hw _ (List.mem_of_getElem? (i := 48) rfl)))) (mvT hZ (hw _ (List.mem_of_getElem? (i := 48) rfl))) (mvT hZ (hw _ (List.mem_of_getElem? (i := 47) rfl))) (by decide) Ec865 (backOf (W := 0) (st3 l Z a0 hw [] b788 hob_790 hok_790 mb_790 mk_790 mv_790 i0 i1 i2 b860 k860 i3 h862 n0 zz864 Ec865 Fc866 Fc867 Fc868 Fc869 Fc870 Vc871 Vc872 V862 Ec873) hZ (hw _ (List.mem_of_getElem? (i := 49) rfl)) (hw _ (List.mem_of_getElem? (i := 3) rfl)) (by decide) (by decide)) rfl (by rw [hml]; rfl) (lenOf pd_9 rfl) rfl (by show 2 * 0 + _ ≤ _; exact Nat.le_of_eq rfl) (hb hby at_138) rfl e862 (by decide) (by decide) ?_
    intro v864 T864 Lc864 hQ864 X864
    obtain ⟨r_864, rk_864, rfl, Nq864, K864, f864_0, f864_1⟩ := hQ864
    have z874 : h862.size ≤ T864.heap.size := K864.1
    have N864 := Fr.app N862 Nq864
    have lt875 := own_alt f864_0.lt
    refine Gl.go (fun _ hr => zXS_astore X864.here hx rfl (hb hby at_141) rfl rfl (l' := #[.val (.long i0), .second, .val (.long i1), .second, .val (.long i2), .second, .val (.long i3), .second, .val (.int i4), .val (.int (3 : Int32)), .val (.ref b788), .val (.int (0 : Int32)), .val (.long i2), .second, .val (.long i2), .second, .val (.ref b860), .val (.ref r_864), .unset, .unset, .unset]) rfl (zXS_aload X864.here hx rfl (hb hby at_143) rfl rfl hr)) ?_
    show Gl p.tables e below _ (T864.setTop (mkF m 145 #[.val (.long i0), .second, .val (.long i1), .second, .val (.long i2), .second, .val (.long i3), .second, .val (.int i4), .val (.int (3 : Int32)), .val (.ref b788), .val (.int (0 : Int32)), .val (.long i2), .second, .val (.long i2), .second, .val (.ref b860), .val (.ref r_864), .unset, .unset, .unset] [(.ref r_864)]))
    obtain ⟨c876, a876, q876, s876, m876, H876, U876⟩ := id f864_0
    refine gLen Gl.cl X864 hx hZ (rfl : T864.heap = T864.heap) a876 s876 m876 rfl rfl (hb hby at_145) ?_
    refine Gl.go (fun _ hr => zXS_iload X864.here hx rfl (hb hby at_146) rfl (zXS_icmpYes X864.here hx rfl (pc0 := 148) (pc' := 153) rfl (hb hby at_148) rfl (XT.ii_eq_t (by decide)) (by decide) (by decide) (zXS_aload X864.here hx rfl (hb hby at_153) rfl rfl (zXS_iconst X864.here hx rfl (hb hby at_155) hr)))) ?_
    have Vc877 := (V862.keep K864 nin0)
    obtain ⟨c878, a878, q878, s878, m878, H878, U878⟩ := id Vc877
    have i878 := inb_of s878 (j := (0 : Int32)) ⟨(by decide), (by decide)⟩
    refine g_laload Gl.cl X864 hx hZ (rfl : T864.heap = T864.heap) a878 i878 (v := (.long i3)) (H878.at i878 rfl) rfl rfl (hb hby at_156) ?_
    refine Gl.go (fun _ hr => zXT_lload X864.here hx rfl (hb hby at_157) rfl (zXT_lcmp X864.here hx rfl (hb hby at_159) rfl hr)) ?_
    refine Gl.go (fun _ hr => zXS_ifYes X864.here hx rfl (pc0 := 160) (pc' := 165) rfl (hb hby at_160) rfl (XT.ll_eq_t rfl) (by decide) (by decide) (zXS_iload X864.here hx rfl (hb hby at_165) rfl (zXS_iconst X864.here hx rfl (hb hby at_167) (zXS_icmpYes X864.here hx rfl (pc0 := 168) (pc' := 183) rfl (hb hby at_168) rfl (XT.ii_lt_t (by decide)) (by decide) (by decide) (zXS_iload X864.here hx rfl (hb hby at_183) rfl (zXS_iconst X864.here hx rfl (hb hby at_185) (zXS_icmpYes X864.here hx rfl (pc0 := 186) (pc' := 204) rfl (hb hby at_186) rfl (XT.ii_lt_t (by decide)) (by decide) (by decide) (zXS_iload X864.here hx rfl (hb hby at_204) rfl (zXS_iconst X864.here hx rfl (hb hby at_206) (zXS_icmpYes X864.here hx rfl (pc0 := 207) (pc' := 228) rfl (hb hby at_207) rfl (XT.ii_lt_t (by decide)) (by decide) (by decide) hr)))))))))) ?_
    refine Gl.go (fun _ hr => zXS_iload X864.here hx rfl (hb hby at_228) rfl (zXS_iconst X864.here hx rfl (hb hby at_230) (zXS_icmpYes X864.here hx rfl (pc0 := 231) (pc' := 288) rfl (hb hby at_231) rfl (XT.ii_lt_t (by decide)) (by decide) (by decide) (zXS_iconst X864.here hx rfl (hb hby at_288) hr)))) ?_
    obtain ⟨fs, hr, hrun, hended, hW, hsame⟩ := X864.leave (v := some (.int (1 : Int32))) (fun h => by rw [Bd.returns] at h; cases h)
    refine ⟨_, _, retN X864 hx (t := .boolean) Bd.returns (by simp) (hb hby at_289) hr, hrun, hended, _, _, rfl, ?_, ⟨⟨_, rfl⟩, hW, hsame.mono (by decide) (by decide)⟩⟩
    show Qlawrm Z i0 i1 i2 i3 i4 h0 n0 _ T864.heap _
    exact ⟨rfl, N864, ((((((((((((Keep.refl h0 []).ext E788).trans K790 (allS (P := fun x_ => x_ ∈ ([] : List Addr) ∨ h0.size ≤ x_) (Or.inr (own_ale (by omega))) all0)).trans K801 (allS (P := fun x_ => x_ ∈ ([] : List Addr) ∨ h0.size ≤ x_) (Or.inr (own_ale (by omega))) (allS (P := fun x_ => x_ ∈ ([] : List Addr) ∨ h0.size ≤ x_) (Or.inr (own_ale (by omega))) all0))).trans K811 (allS (P := fun x_ => x_ ∈ ([] : List Addr) ∨ h0.size ≤ x_) (Or.inr (own_ale (by omega))) (allS (P := fun x_ => x_ ∈ ([] : List Addr) ∨ h0.size ≤ x_) (Or.inr (own_ale (by omega))) all0))).trans K821 (allS (P := fun x_ => x_ ∈ ([] : List Addr) ∨ h0.size ≤ x_) (Or.inr (own_ale (by omega))) (allS (P := fun x_ => x_ ∈ ([] : List Addr) ∨ h0.size ≤ x_) (Or.inr (own_ale (by omega))) all0))).trans K831 (allS (P := fun x_ => x_ ∈ ([] : List Addr) ∨ h0.size ≤ x_) (Or.inr (own_ale (by omega))) all0)).trans K839 (allS (P := fun x_ => x_ ∈ ([] : List Addr) ∨ h0.size ≤ x_) (Or.inr (own_ale (by omega))) all0)).trans K849 (allS (P := fun x_ => x_ ∈ ([] : List Addr) ∨ h0.size ≤ x_) (Or.inr (own_ale (by omega))) all0)).ext E860).wr W862 (Or.inr (own_ale (by omega)))).trans K864 all0)⟩
set_option maxRecDepth 65536 in
set_option maxHeartbeats 40000000 in
theorem comes_1 {Post : Tables → Env → Array Value → State → Outcome → State → Prop} (hpost : ∀ tb e args s v u, (limb_1_1.after args s (.returned v) u = true ∧ limb_1_2.after args s (.returned v) u = true ∧ True) → FrameEnd s (.returned v) u (Jvm.fieldLocs frame_1_writes args s ++ Jvm.arrayLocs frame_1_arrays args s ++ Jvm.staticLocs frame_1_statics s) 80 768 → Post tb e args s (.returned v) u) :
    ArmFor flags0 classFile x code maxLocals ret World_1 tables_1 room_1 Calls_1 rest_1 Pre_1 Post := by
  intro l hfl _ _ p e ha hc hk s m args below hf hA hF happ hP
  obtain ⟨hcalls, hrest, hpre⟩ := hP
  obtain ⟨-, -, -, hnamed, -, -, -, hat⟩ := (Spec.applies_iff hf).mp happ
  obtain ⟨hg, hn⟩ := and_e (Cond.before_iff.mp (show (Jvm.Cond.and given_1 narrow_1).before args s = true from hpre))
  obtain ⟨hcount, hgs⟩ := and_e hg
  obtain ⟨w0, w1, w2, w3, w4, rfl⟩ : ∃ w0 w1 w2 w3 w4 : Value, args = #[w0, w1, w2, w3, w4] := by
    have hs : args.size = 5 := by simpa [Cond.value, given_1] using hcount
    obtain ⟨L⟩ := args
    match L, hs with
    | [w0, w1, w2, w3, w4], _ => exact ⟨w0, w1, w2, w3, w4, rfl⟩
  obtain ⟨ha0, hr0⟩ := and_e hgs
  obtain ⟨i0, ei0⟩ := isL_v ha0
  obtain rfl : w0 = (.long i0) := Option.some.inj ei0
  obtain ⟨ha1, hr1⟩ := and_e hr0
  obtain ⟨i1, ei1⟩ := isL_v ha1
  obtain rfl : w1 = (.long i1) := Option.some.inj ei1
  obtain ⟨ha2, hr2⟩ := and_e hr1
  obtain ⟨i2, ei2⟩ := isL_v ha2
  obtain rfl : w2 = (.long i2) := Option.some.inj ei2
  obtain ⟨ha3, hr3⟩ := and_e hr2
  obtain ⟨i3, ei3⟩ := isL_v ha3
  obtain rfl : w3 = (.long i3) := Option.some.inj ei3
  obtain ⟨i4, ei4⟩ := is_v hr3
  obtain rfl : w4 = (.int i4) := Option.some.inj ei4
  have hw := fun d (hd : d ∈ tables_1) => atoms_spec (ws := Jvm.Cond.code x code maxLocals ret :: tables_1) hat d (List.mem_cons_of_mem _ hd)
  have hfit : Fit s := fun {y c} hc i hi => by
    obtain ⟨ha, rfl⟩ := Array.getElem?_eq_some_iff.mp hc
    have q := List.all_eq_true.mp ((Array.all_eq_true_iff_forall_mem.mp hF) _ (Array.getElem_mem ha)) i (List.mem_range.mpr hi)
    simpa [Array.getElem?_eq_getElem hi] using q
  have etl : (Jvm.Term.static "com/example/evenkeel/evenkeel/sim/LaneLayouts" "TALLEST" "I").eval _ s none [] s = some (.int 25) := Cond.eq_int (Cond.before_iff.mpr hn) rfl
  obtain ⟨n, o, h1, h2, h3, _, L, rfl, ⟨rfl, N, -⟩, hq⟩ := lawrm l s _ hw tables_1 i0 i1 i2 i3 i4 s.heap s.heap.size (Nat.le_refl _) (Old.start s) (Sta.start etl (Or.inr ⟨(hw _ (List.mem_of_getElem? (i := 3) rfl)), (hw _ (List.mem_of_getElem? (i := 19) rfl))⟩) : Sta s s.heap "com/example/evenkeel/evenkeel/sim/LaneLayouts" "TALLEST" "I" (.int 25)) p e ha hc hk s m _ below hf ((Spec.applies_iff_loose hf).mp happ).1 ⟨rfl, State.Warmed39.refl s, rfl⟩ trivial
  refine ⟨n, _, h1, h2, h3, hpost _ _ _ _ _ _ ⟨Cond.after_iff.mpr rfl, Cond.after_iff.mpr (eq_i res_at (Term.int_eval (1)) rfl), trivial⟩ ⟨hq.1, hq.2.1, (hq.2.2.sift fun y hy => Or.inr (N y hy)).mono (by decide) (by decide)⟩⟩
theorem main_1_1 : Claimed_1_1 := comes_1 fun _ _ _ _ _ _ h hF => ⟨h.1, hF⟩
theorem main_1_2 : Claimed_1_2 := comes_1 fun _ _ _ _ _ _ h hF => ⟨h.2.1, hF⟩
end Jvm.Pilot.@@N@@
namespace Jvm.Pilot.@@N@@
open Jvm Jvm.ClassFile Sem Op Lib Jvm.Free Jvm.Stand Jvm.Pilot.@@N@@.Jvm.D
/-! MADE BY PROGRAM (witnessworld.py) out of the Statement's table words and the real class files: 15 classes; the members and pool entries that the words name. The judged class is class 1, her method 1. -/
namespace start1
open Jvm.ClassFile
def u (s : String) : CpInfo := .utf8 (stringToUtf16 s)
/-- a pool by its gaps: so many unusable entries, then the entry; so many at the end -/
def gap : Nat → List CpInfo → List CpInfo
  | 0, r => r
  | n + 1, r => .unusable :: gap n r
def poolList (es : List (Nat × CpInfo)) (last : Nat) : List CpInfo := es.foldr (fun e r => gap e.1 (e.2 :: r)) (gap last [])
def pool (es : List (Nat × CpInfo)) (last : Nat) : Array CpInfo := ⟨poolList es last⟩
def fileOf (pool : Array CpInfo) (this : Nat) (attrs : Array Attribute := #[]) (ms : Array MethodInfo := #[]) (fl : Nat := 33) (sup : Nat := 0) (ifs : Array Nat := #[]) (fds : Array FieldInfo := #[]) : ClassFile where
  minorVersion := 0
  majorVersion := 65
  constantPool := pool
  accessFlags := fl
  thisClass := this
  superClass := sup
  interfaces := ifs
  fields := fds
  methods := ms
  attributes := attrs
def plain (name : String) (sup : Option ClassId) : Class where
  name := name
  kind := .ordinary
  loader := none
  accessFlags := 33
  super := sup
  interfaces := #[]
  cf := none
  fields := #[]
  methods := #[]
  instanceTypes := #[]
  staticTypes := #[]
  resolved := #[]
  callSites := []
  init := .initialized
  statics := none
  mirror := none

def pool0 : Array CpInfo := pool [(5, u "<init>"), (0, u "()V"), (1, .class_ 10), (1, u "java/lang/Object"), (85, u "clone"), (0, u "()Ljava/lang/Object;")] 26

def k0c0 : Code := { maxStack := 0, maxLocals := 1, code := object_method_1_code, exceptionTable := #[], attributes := #[] }
def k0m0 : Method := { name := "<init>", desc := "()V", sig := { parameters := [], returnType := none }, accessFlags := 1, code := some k0c0 }
def k0m1 : Method := { name := "clone", desc := "()Ljava/lang/Object;", sig := { parameters := [], returnType := some (.object "java/lang/Object") }, accessFlags := 260, code := none }
/-- java/lang/Object -/
def k0 : Class := { plain "java/lang/Object" none with
  accessFlags := 33
  interfaces := #[]
  cf := some (fileOf pool0 8 #[] #[{ accessFlags := 1, nameIndex := 5, descriptorIndex := 6, attributes := #[] }, { accessFlags := 260, nameIndex := 96, descriptorIndex := 97, attributes := #[] }] 33 0 #[] #[])
  fields := #[]
  methods := #[k0m0, k0m1]
  instanceTypes := #[]
  staticTypes := #[]
  resolved := Array.replicate 124 none
  statics := none }

def pool1 : Array CpInfo := pool [(2, .class_ 4), (0, .nameAndType 5 6), (0, u "java/lang/Object"), (0, u "<init>"), (0, u "()V"), (0, .integer 2147483647), (0, .class_ 9), (0, u "com/example/evenkeel/evenkeel/sim/LaneLayouts"), (0, .methodref 8 3), (0, .methodref 8 12), (0, .nameAndType 13 14), (0, u "append"), (0, u "(J)V"), (0, .methodref 8 16), (0, .nameAndType 17 6), (0, u "dropFirst"), (0, .methodref 8 19), (0, .nameAndType 20 21), (0, u "size"), (0, u "()I"), (0, .methodref 8 23), (0, .nameAndType 24 25), (0, u "starts"), (0, u "([J)[J"), (0, .methodref 8 27), (0, .nameAndType 28 29), (0, u "layOut"), (0, u "([J)J"), (0, .class_ 31), (0, u "com/example/evenkeel/evenkeel/sim/LaneLayoutsDropFirstPinLaw"), (2, u "law"), (0, u "(JJJJI)Z")] 5

def k1m0 : Method := { name := "<init>", desc := "()V", sig := { parameters := [], returnType := none }, accessFlags := 1, code := none }
def k1c1 : Code := { maxStack := 6, maxLocals := 21, code := code, exceptionTable := #[], attributes := #[] }
def k1m1 : Method := { name := "law", desc := "(JJJJI)Z", sig := { parameters := [.long, .long, .long, .long, .int], returnType := some .boolean }, accessFlags := 9, code := some k1c1 }
/-- com/example/evenkeel/evenkeel/sim/LaneLayoutsDropFirstPinLaw -/
def k1 : Class := { plain "com/example/evenkeel/evenkeel/sim/LaneLayoutsDropFirstPinLaw" (some 0) with
  accessFlags := 49
  interfaces := #[]
  cf := some (fileOf pool1 30 #[] #[{ accessFlags := 1, nameIndex := 5, descriptorIndex := 6, attributes := #[] }, { accessFlags := 9, nameIndex := 34, descriptorIndex := 35, attributes := #[] }] 49 2 #[] #[])
  fields := #[]
  methods := #[k1m0, k1m1]
  instanceTypes := #[]
  staticTypes := #[]
  resolved := Array.replicate 41 none
  statics := none }

def pool2 : Array CpInfo := pool [(1, .methodref 2 3), (0, .class_ 4), (0, .nameAndType 5 6), (0, u "java/lang/Object"), (0, u "<init>"), (0, u "()V"), (0, .fieldref 8 9), (0, .class_ 10), (0, .nameAndType 11 12), (0, u "com/example/evenkeel/evenkeel/sim/LaneLayouts"), (0, u "holds"), (0, u "[J"), (0, .class_ 14), (0, u "[[Lcom/example/evenkeel/evenkeel/sim/LaneLayouts$Memory;"), (0, .fieldref 8 16), (0, .nameAndType 17 14), (0, u "memories"), (0, .fieldref 8 19), (0, .nameAndType 20 21), (0, u "TALLEST"), (0, u "I"), (0, .class_ 23), (0, u "[[J"), (0, .fieldref 8 25), (0, .nameAndType 26 23), (0, u "apart"), (1, .fieldref 8 29), (0, .nameAndType 30 21), (0, u "first"), (0, .fieldref 8 32), (0, .nameAndType 33 21), (0, u "base"), (0, .fieldref 8 35), (0, .nameAndType 36 21), (0, u "end"), (5, u "(II)I"), (1, .class_ 46), (1, u "java/util/Arrays"), (2, .methodref 50 51), (0, .class_ 12), (0, .nameAndType 52 53), (0, u "clone"), (0, u "()Ljava/lang/Object;"), (0, .methodref 44 55), (0, .nameAndType 56 57), (0, u "sort"), (0, u "([J)V"), (0, .methodref 8 59), (0, .nameAndType 60 61), (0, u "size"), (0, u "()I"), (0, .methodref 8 63), (0, .nameAndType 64 65), (0, u "take"), (0, u "([JJ)V"), (7, .methodref 8 74), (0, .nameAndType 75 42), (0, u "tallestFrom"), (2, u "layOut"), (6, .class_ 87), (1, u "com/example/evenkeel/evenkeel/sim/LaneLayouts$Memory"), (24, u "LEAF"), (2, u "REMEMBERED"), (1, u "MOST_LANES"), (4, u "append"), (0, u "(J)V"), (1, u "dropFirst"), (0, u "starts"), (0, u "([J)[J"), (0, u "([J)J")] 6

def k2c0 : Code := { maxStack := 3, maxLocals := 1, code := prog_130_method_1_code, exceptionTable := #[], attributes := #[] }
def k2m0 : Method := { name := "<init>", desc := "()V", sig := { parameters := [], returnType := none }, accessFlags := 0, code := some k2c0 }
def k2c1 : Code := { maxStack := 2, maxLocals := 1, code := prog_130_method_3_code, exceptionTable := #[], attributes := #[] }
def k2m1 : Method := { name := "size", desc := "()I", sig := { parameters := [], returnType := some .int }, accessFlags := 0, code := some k2c1 }
def k2c2 : Code := { maxStack := 5, maxLocals := 4, code := prog_130_method_4_code, exceptionTable := #[], attributes := #[] }
def k2m2 : Method := { name := "append", desc := "(J)V", sig := { parameters := [.long], returnType := none }, accessFlags := 0, code := some k2c2 }
def k2c3 : Code := { maxStack := 3, maxLocals := 3, code := prog_130_method_5_code, exceptionTable := #[], attributes := #[] }
def k2m3 : Method := { name := "dropFirst", desc := "()V", sig := { parameters := [], returnType := none }, accessFlags := 0, code := some k2c3 }
def k2c4 : Code := { maxStack := 4, maxLocals := 5, code := prog_130_method_6_code, exceptionTable := #[], attributes := #[] }
def k2m4 : Method := { name := "starts", desc := "([J)[J", sig := { parameters := [(.array .long)], returnType := some (.array .long) }, accessFlags := 0, code := some k2c4 }
def k2c5 : Code := { maxStack := 5, maxLocals := 8, code := prog_130_method_7_code, exceptionTable := #[], attributes := #[] }
def k2m5 : Method := { name := "layOut", desc := "([J)J", sig := { parameters := [(.array .long)], returnType := some .long }, accessFlags := 0, code := some k2c5 }
def k2c6 : Code := { maxStack := 4, maxLocals := 3, code := prog_130_method_8_code, exceptionTable := #[], attributes := #[] }
def k2m6 : Method := { name := "tallestFrom", desc := "(II)I", sig := { parameters := [.int, .int], returnType := some .int }, accessFlags := 10, code := some k2c6 }
def k2c7 : Code := { maxStack := 4, maxLocals := 8, code := prog_130_method_11_code, exceptionTable := #[], attributes := #[] }
def k2m7 : Method := { name := "take", desc := "([JJ)V", sig := { parameters := [(.array .long), .long], returnType := none }, accessFlags := 10, code := some k2c7 }
/-- com/example/evenkeel/evenkeel/sim/LaneLayouts -/
def k2 : Class := { plain "com/example/evenkeel/evenkeel/sim/LaneLayouts" (some 0) with
  accessFlags := 48
  interfaces := #[]
  cf := some (fileOf pool2 8 #[.nestMembers #[85]] #[{ accessFlags := 0, nameIndex := 5, descriptorIndex := 6, attributes := #[] }, { accessFlags := 0, nameIndex := 60, descriptorIndex := 61, attributes := #[] }, { accessFlags := 0, nameIndex := 122, descriptorIndex := 123, attributes := #[] }, { accessFlags := 0, nameIndex := 125, descriptorIndex := 6, attributes := #[] }, { accessFlags := 0, nameIndex := 126, descriptorIndex := 127, attributes := #[] }, { accessFlags := 0, nameIndex := 78, descriptorIndex := 128, attributes := #[] }, { accessFlags := 10, nameIndex := 75, descriptorIndex := 42, attributes := #[] }, { accessFlags := 10, nameIndex := 64, descriptorIndex := 65, attributes := #[] }] 48 2 #[] #[{ accessFlags := 26, nameIndex := 112, descriptorIndex := 21, attributes := #[] }, { accessFlags := 26, nameIndex := 115, descriptorIndex := 21, attributes := #[] }, { accessFlags := 26, nameIndex := 117, descriptorIndex := 21, attributes := #[] }, { accessFlags := 26, nameIndex := 20, descriptorIndex := 21, attributes := #[] }, { accessFlags := 2, nameIndex := 11, descriptorIndex := 12, attributes := #[] }, { accessFlags := 2, nameIndex := 33, descriptorIndex := 21, attributes := #[] }, { accessFlags := 2, nameIndex := 30, descriptorIndex := 21, attributes := #[] }, { accessFlags := 2, nameIndex := 36, descriptorIndex := 21, attributes := #[] }, { accessFlags := 2, nameIndex := 17, descriptorIndex := 14, attributes := #[] }, { accessFlags := 18, nameIndex := 26, descriptorIndex := 23, attributes := #[] }])
  fields := #[{ name := "LEAF", type := .int, accessFlags := 26, slot := 0, constantValue := 0 }, { name := "REMEMBERED", type := .int, accessFlags := 26, slot := 1, constantValue := 0 }, { name := "MOST_LANES", type := .int, accessFlags := 26, slot := 2, constantValue := 0 }, { name := "TALLEST", type := .int, accessFlags := 26, slot := 3, constantValue := 0 }, { name := "holds", type := (.array .long), accessFlags := 2, slot := 0, constantValue := 0 }, { name := "base", type := .int, accessFlags := 2, slot := 1, constantValue := 0 }, { name := "first", type := .int, accessFlags := 2, slot := 2, constantValue := 0 }, { name := "end", type := .int, accessFlags := 2, slot := 3, constantValue := 0 }, { name := "memories", type := (.array (.array (.object "com/example/evenkeel/evenkeel/sim/LaneLayouts$Memory"))), accessFlags := 2, slot := 4, constantValue := 0 }, { name := "apart", type := (.array (.array .long)), accessFlags := 18, slot := 5, constantValue := 0 }]
  methods := #[k2m0, k2m1, k2m2, k2m3, k2m4, k2m5, k2m6, k2m7]
  instanceTypes := #[(.array .long), .int, .int, .int, (.array (.array (.object "com/example/evenkeel/evenkeel/sim/LaneLayouts$Memory"))), (.array (.array .long))]
  staticTypes := #[.int, .int, .int, .int]
  resolved := Array.replicate 135 none
  statics := some 0 }

def pool3 : Array CpInfo := pool [(1, .class_ 2), (0, u "java/lang/Cloneable"), (0, .class_ 4), (0, u "java/lang/Object")] 2

/-- java/lang/Cloneable -/
def k3 : Class := { plain "java/lang/Cloneable" (some 0) with
  accessFlags := 1537
  interfaces := #[]
  cf := some (fileOf pool3 1 #[] #[] 1537 3 #[] #[])
  fields := #[]
  methods := #[]
  instanceTypes := #[]
  staticTypes := #[]
  resolved := Array.replicate 7 none
  statics := none }

def pool4 : Array CpInfo := pool [(2, .class_ 4), (1, u "java/lang/Object"), (0, u "<init>"), (0, u "()V"), (1, .class_ 10), (1, u "java/util/DualPivotQuicksort"), (0, u "sort"), (2, .class_ 16), (1, u "java/util/Arrays"), (2, .methodref 8 20), (0, .nameAndType 11 21), (0, u "([JIII)V"), (52, .class_ 76), (1, u "java/util/Arrays$NaturalOrder"), (36, .class_ 115), (1, u "java/util/Arrays$LegacyMergeSort"), (1, u "Z"), (257, .class_ 376), (0, u "java/util/Arrays$ArrayList"), (68, u "$assertionsDisabled"), (269, u "MIN_ARRAY_SORT_GRAN"), (0, u "I"), (2, u "INSERTIONSORT_THRESHOLD"), (11, u "([J)V"), (243, .class_ 976), (0, u "java/util/Arrays$ArrayItr")] 52

def k4m0 : Method := { name := "<init>", desc := "()V", sig := { parameters := [], returnType := none }, accessFlags := 2, code := none }
def k4c1 : Code := { maxStack := 4, maxLocals := 1, code := jdk_65_method_4_code, exceptionTable := #[], attributes := #[] }
def k4m1 : Method := { name := "sort", desc := "([J)V", sig := { parameters := [(.array .long)], returnType := none }, accessFlags := 9, code := some k4c1 }
/-- java/util/Arrays -/
def k4 : Class := { plain "java/util/Arrays" (some 0) with
  accessFlags := 49
  interfaces := #[]
  cf := some (fileOf pool4 14 #[.nestMembers #[975, 375, 113, 74]] #[{ accessFlags := 2, nameIndex := 5, descriptorIndex := 6, attributes := #[] }, { accessFlags := 9, nameIndex := 11, descriptorIndex := 731, attributes := #[] }] 49 2 #[] #[{ accessFlags := 26, nameIndex := 715, descriptorIndex := 716, attributes := #[] }, { accessFlags := 26, nameIndex := 719, descriptorIndex := 716, attributes := #[] }, { accessFlags := 4120, nameIndex := 445, descriptorIndex := 117, attributes := #[] }])
  fields := #[{ name := "MIN_ARRAY_SORT_GRAN", type := .int, accessFlags := 26, slot := 0, constantValue := 0 }, { name := "INSERTIONSORT_THRESHOLD", type := .int, accessFlags := 26, slot := 1, constantValue := 0 }, { name := "$assertionsDisabled", type := .boolean, accessFlags := 4120, slot := 2, constantValue := 0 }]
  methods := #[k4m0, k4m1]
  instanceTypes := #[]
  staticTypes := #[.int, .int, .boolean]
  resolved := Array.replicate 1029 none
  statics := none }

def pool5 : Array CpInfo := pool [(1, .class_ 2), (0, u "java/util/DualPivotQuicksort"), (5, .class_ 10), (1, u "java/lang/Object"), (0, u "<init>"), (0, u "()V"), (4, .class_ 18), (0, u "java/util/DualPivotQuicksort$Sorter"), (9, u "sort"), (7, u "insertionSort"), (31, u "I"), (4, .class_ 74), (0, u "java/util/DualPivotQuicksort$RunMerger"), (10, .class_ 86), (0, u "java/util/DualPivotQuicksort$Merger"), (12, .methodref 1 100), (0, .nameAndType 28 101), (0, u "(Ljava/util/DualPivotQuicksort$Sorter;[JIII)V"), (2, u "([JIII)V"), (0, .methodref 1 106), (0, .nameAndType 36 107), (0, u "([JII)V"), (106, u "MAX_MIXED_INSERTION_SORT_SIZE"), (2, u "MAX_INSERTION_SORT_SIZE"), (1, u "MIN_PARALLEL_SORT_SIZE"), (1, u "MIN_TRY_MERGE_SIZE"), (0, u "MIN_FIRST_RUN_SIZE"), (1, u "MIN_FIRST_RUNS_FACTOR"), (1, u "MAX_RUN_CAPACITY"), (1, u "MIN_RUN_COUNT"), (1, u "MIN_PARALLEL_MERGE_PARTS_SIZE"), (0, u "MIN_BYTE_COUNTING_SORT_SIZE"), (1, u "MIN_SHORT_OR_CHAR_COUNTING_SORT_SIZE"), (1, u "DELTA"), (1, u "MAX_RECURSION_DEPTH"), (1, u "NUM_BYTE_VALUES"), (1, u "MAX_BYTE_INDEX"), (0, u "NUM_CHAR_VALUES"), (0, u "NUM_SHORT_VALUES"), (0, u "MAX_SHORT_INDEX")] 86

def k5m0 : Method := { name := "<init>", desc := "()V", sig := { parameters := [], returnType := none }, accessFlags := 2, code := none }
def k5c1 : Code := { maxStack := 9, maxLocals := 7, code := jdk_2529_method_12_code, exceptionTable := #[], attributes := #[] }
def k5m1 : Method := { name := "sort", desc := "([JIII)V", sig := { parameters := [(.array .long), .int, .int, .int], returnType := none }, accessFlags := 8, code := some k5c1 }
def k5c2 : Code := { maxStack := 6, maxLocals := 25, code := jdk_2529_method_13_code, exceptionTable := #[], attributes := #[] }
def k5m2 : Method := { name := "sort", desc := "(Ljava/util/DualPivotQuicksort$Sorter;[JIII)V", sig := { parameters := [(.object "java/util/DualPivotQuicksort$Sorter"), (.array .long), .int, .int, .int], returnType := none }, accessFlags := 8, code := some k5c2 }
def k5c3 : Code := { maxStack := 5, maxLocals := 7, code := jdk_2529_method_15_code, exceptionTable := #[], attributes := #[] }
def k5m3 : Method := { name := "insertionSort", desc := "([JII)V", sig := { parameters := [(.array .long), .int, .int], returnType := none }, accessFlags := 10, code := some k5c3 }
/-- java/util/DualPivotQuicksort -/
def k5 : Class := { plain "java/util/DualPivotQuicksort" (some 0) with
  accessFlags := 48
  interfaces := #[]
  cf := some (fileOf pool5 1 #[.nestMembers #[73, 85, 17]] #[{ accessFlags := 2, nameIndex := 11, descriptorIndex := 12, attributes := #[] }, { accessFlags := 8, nameIndex := 28, descriptorIndex := 104, attributes := #[] }, { accessFlags := 8, nameIndex := 28, descriptorIndex := 101, attributes := #[] }, { accessFlags := 10, nameIndex := 36, descriptorIndex := 107, attributes := #[] }] 48 8 #[] #[{ accessFlags := 26, nameIndex := 214, descriptorIndex := 68, attributes := #[] }, { accessFlags := 26, nameIndex := 217, descriptorIndex := 68, attributes := #[] }, { accessFlags := 26, nameIndex := 219, descriptorIndex := 68, attributes := #[] }, { accessFlags := 26, nameIndex := 221, descriptorIndex := 68, attributes := #[] }, { accessFlags := 26, nameIndex := 222, descriptorIndex := 68, attributes := #[] }, { accessFlags := 26, nameIndex := 224, descriptorIndex := 68, attributes := #[] }, { accessFlags := 26, nameIndex := 226, descriptorIndex := 68, attributes := #[] }, { accessFlags := 26, nameIndex := 228, descriptorIndex := 68, attributes := #[] }, { accessFlags := 26, nameIndex := 230, descriptorIndex := 68, attributes := #[] }, { accessFlags := 26, nameIndex := 231, descriptorIndex := 68, attributes := #[] }, { accessFlags := 26, nameIndex := 233, descriptorIndex := 68, attributes := #[] }, { accessFlags := 26, nameIndex := 235, descriptorIndex := 68, attributes := #[] }, { accessFlags := 26, nameIndex := 237, descriptorIndex := 68, attributes := #[] }, { accessFlags := 26, nameIndex := 239, descriptorIndex := 68, attributes := #[] }, { accessFlags := 26, nameIndex := 241, descriptorIndex := 68, attributes := #[] }, { accessFlags := 26, nameIndex := 242, descriptorIndex := 68, attributes := #[] }, { accessFlags := 26, nameIndex := 243, descriptorIndex := 68, attributes := #[] }, { accessFlags := 26, nameIndex := 244, descriptorIndex := 68, attributes := #[] }])
  fields := #[{ name := "MAX_MIXED_INSERTION_SORT_SIZE", type := .int, accessFlags := 26, slot := 0, constantValue := 0 }, { name := "MAX_INSERTION_SORT_SIZE", type := .int, accessFlags := 26, slot := 1, constantValue := 0 }, { name := "MIN_PARALLEL_SORT_SIZE", type := .int, accessFlags := 26, slot := 2, constantValue := 0 }, { name := "MIN_TRY_MERGE_SIZE", type := .int, accessFlags := 26, slot := 3, constantValue := 0 }, { name := "MIN_FIRST_RUN_SIZE", type := .int, accessFlags := 26, slot := 4, constantValue := 0 }, { name := "MIN_FIRST_RUNS_FACTOR", type := .int, accessFlags := 26, slot := 5, constantValue := 0 }, { name := "MAX_RUN_CAPACITY", type := .int, accessFlags := 26, slot := 6, constantValue := 0 }, { name := "MIN_RUN_COUNT", type := .int, accessFlags := 26, slot := 7, constantValue := 0 }, { name := "MIN_PARALLEL_MERGE_PARTS_SIZE", type := .int, accessFlags := 26, slot := 8, constantValue := 0 }, { name := "MIN_BYTE_COUNTING_SORT_SIZE", type := .int, accessFlags := 26, slot := 9, constantValue := 0 }, { name := "MIN_SHORT_OR_CHAR_COUNTING_SORT_SIZE", type := .int, accessFlags := 26, slot := 10, constantValue := 0 }, { name := "DELTA", type := .int, accessFlags := 26, slot := 11, constantValue := 0 }, { name := "MAX_RECURSION_DEPTH", type := .int, accessFlags := 26, slot := 12, constantValue := 0 }, { name := "NUM_BYTE_VALUES", type := .int, accessFlags := 26, slot := 13, constantValue := 0 }, { name := "MAX_BYTE_INDEX", type := .int, accessFlags := 26, slot := 14, constantValue := 0 }, { name := "NUM_CHAR_VALUES", type := .int, accessFlags := 26, slot := 15, constantValue := 0 }, { name := "NUM_SHORT_VALUES", type := .int, accessFlags := 26, slot := 16, constantValue := 0 }, { name := "MAX_SHORT_INDEX", type := .int, accessFlags := 26, slot := 17, constantValue := 0 }]
  methods := #[k5m0, k5m1, k5m2, k5m3]
  instanceTypes := #[]
  staticTypes := #[.int, .int, .int, .int, .int, .int, .int, .int, .int, .int, .int, .int, .int, .int, .int, .int, .int, .int]
  resolved := Array.replicate 331 none
  statics := none }

def pool6 : Array CpInfo := pool [(1, .class_ 2), (0, u "com/example/evenkeel/evenkeel/sim/LaneLayouts"), (1, .class_ 6), (1, u "java/lang/Object"), (3, .class_ 12), (1, u "com/example/evenkeel/evenkeel/sim/LaneLayouts$Memory"), (0, u "lanes"), (0, u "I"), (2, u "apart"), (0, u "[J"), (2, u "after"), (2, u "count"), (2, u "next")] 25

/-- com/example/evenkeel/evenkeel/sim/LaneLayouts$Memory -/
def k6 : Class := { plain "com/example/evenkeel/evenkeel/sim/LaneLayouts$Memory" (some 0) with
  accessFlags := 48
  interfaces := #[]
  cf := some (fileOf pool6 10 #[.nestHost 1] #[] 48 4 #[] #[{ accessFlags := 18, nameIndex := 13, descriptorIndex := 14, attributes := #[] }, { accessFlags := 18, nameIndex := 17, descriptorIndex := 18, attributes := #[] }, { accessFlags := 18, nameIndex := 21, descriptorIndex := 18, attributes := #[] }, { accessFlags := 2, nameIndex := 24, descriptorIndex := 14, attributes := #[] }, { accessFlags := 2, nameIndex := 27, descriptorIndex := 14, attributes := #[] }])
  fields := #[{ name := "lanes", type := .int, accessFlags := 18, slot := 0, constantValue := 0 }, { name := "apart", type := (.array .long), accessFlags := 18, slot := 1, constantValue := 0 }, { name := "after", type := (.array .long), accessFlags := 18, slot := 2, constantValue := 0 }, { name := "count", type := .int, accessFlags := 2, slot := 3, constantValue := 0 }, { name := "next", type := .int, accessFlags := 2, slot := 4, constantValue := 0 }]
  methods := #[]
  instanceTypes := #[.int, (.array .long), (.array .long), .int, .int]
  staticTypes := #[]
  resolved := Array.replicate 53 none
  statics := none }

def pool7 : Array CpInfo := pool [(1, u "java/io/Serializable"), (0, .class_ 1), (0, u "java/lang/Object"), (0, .class_ 3)] 3

/-- java/io/Serializable -/
def k7 : Class := { plain "java/io/Serializable" (some 0) with
  accessFlags := 1537
  interfaces := #[]
  cf := some (fileOf pool7 2 #[] #[] 1537 4 #[] #[])
  fields := #[]
  methods := #[]
  instanceTypes := #[]
  staticTypes := #[]
  resolved := Array.replicate 8 none
  statics := none }

/-- the primitive byte -/
def k8 : Class := { plain "byte" none with kind := .primitive 'B', accessFlags := 0x411 }
/-- [B -/
def k9 : Class := { plain "[B" (some 0) with kind := .array 8 .byte, interfaces := #[3, 7], accessFlags := 1041 }

/-- the primitive int -/
def k10 : Class := { plain "int" none with kind := .primitive 'I', accessFlags := 0x411 }
/-- [I -/
def k11 : Class := { plain "[I" (some 0) with kind := .array 10 .int, interfaces := #[3, 7], accessFlags := 1041 }

/-- the primitive long -/
def k12 : Class := { plain "long" none with kind := .primitive 'J', accessFlags := 0x411 }
/-- [J -/
def k13 : Class := { plain "[J" (some 0) with kind := .array 12 .long, interfaces := #[3, 7], accessFlags := 1041 }

/-- [Lcom/example/evenkeel/evenkeel/sim/LaneLayouts$Memory; -/
def k14 : Class := { plain "[Lcom/example/evenkeel/evenkeel/sim/LaneLayouts$Memory;" (some 0) with kind := .array 6 (.object "com/example/evenkeel/evenkeel/sim/LaneLayouts$Memory"), interfaces := #[3, 7], accessFlags := 1041 }

def heap : Heap := #[{ cls := 2, slots := #[.int 0, .int 0, .int 0, .int 25], vm := .statics 2 }]
def k15 : Class := { plain "[[J" (some 0) with kind := .array 13 (.array .long), interfaces := #[3, 7], accessFlags := 1041 }
def k16 : Class := { plain "[[Lcom/example/evenkeel/evenkeel/sim/LaneLayouts$Memory;" (some 0) with kind := .array 14 (.array (.object "com/example/evenkeel/evenkeel/sim/LaneLayouts$Memory")), interfaces := #[3, 7], accessFlags := 1041 }
def classes : Array Class := #[k0, k1, k2, k3, k4, k5, k6, k7, k8, k9, k10, k11, k12, k13, k14, k15, k16]
def interned : List (Array UInt16 × Addr) := []
def slotsUsed : Nat := 4
def theMethod : MethodId := ⟨1, 1⟩
def args0 : Array Value := #[.long 5, .long 7, .long 9, .long 1, .int 3]
def aboutOver (below : List Frame) : State where
  vm := { classes := classes, interned := interned.toArray }
  heap := heap
  slotsUsed := slotsUsed
  threads := #[{ frames := .invoking theMethod args0 :: below }]
def below0 : List Frame := [.native { method := ⟨0, 0⟩, args := #[] }]
def about1 : State := aboutOver below0
def p0 : Program := .bare "" "" ""
def e0 : Env := launch0.env 0 0 0
theorem w_frames : about1.frames = Frame.invoking theMethod args0 :: below0 := rfl
set_option maxRecDepth 65536 in
theorem w_args : argsFit about1.vm theMethod args0 = true := by decide +kernel
set_option maxRecDepth 65536 in
theorem w_heap : heapFits about1 = true := by decide +kernel
set_option maxRecDepth 65536 in
theorem w_runnable : about1.curStatus? = some .runnable := by decide +kernel
set_option maxRecDepth 65536 in
theorem w_alone : about1.alone = true := by decide +kernel
set_option maxRecDepth 65536 in
theorem w_named : about1.methodNamed? x = some theMethod := by decide +kernel
set_option maxRecDepth 65536 in
theorem w_hears : about1.hears theMethod below0 = true := by decide +kernel
set_option maxRecDepth 65536 in
theorem w_ripe : about1.ripe theMethod args0 below0 = true := by decide +kernel
theorem w_running : about1.status = .running := rfl
set_option maxRecDepth 65536 in
theorem w_room : about1.hasRoom e0.platform room_1 = true :=
  launch0.hasRoom_least _ room_1 (by decide +kernel) (by decide +kernel) (by decide +kernel) (by decide +kernel) (by decide +kernel) (by decide +kernel)
theorem allAtoms_all (ts : List Jvm.Cond) (a : Array Jvm.Value) (st : Jvm.State) : (allAtoms ts).before a st = ts.all (fun c => c.before a st) := by
  induction ts with
  | nil => rfl
  | cons c t ih =>
    show (Jvm.Cond.and c (allAtoms t)).before a st = _
    rw [Jvm.Cond.before_and, ih, List.all_cons]
def words1 : List Jvm.Cond := Jvm.Cond.code x code maxLocals ret :: tables_1
/-- a 'code' word, met by the world's own term for the bytes: nothing is compared byte by byte -/
theorem code_word {y : MethodName} {bytes : ByteArray} {mx : Nat} {rt : Option FieldType} {a : Array Value} {s : State} {m : MethodId} {meth : Method} {c : Code} (h1 : s.methodNamed? y = some m) (h2 : s.vm.method? m = some meth) (h3 : meth.code = some c) (h4 : c.code = bytes)
    (h5 : (c.maxLocals == mx && c.exceptionTable.isEmpty && decide (c.maxStack ≤ mostOperands) && decide (meth.sig.returnType = rt) && !meth.locks && decide (parseMethodDescriptor y.desc = some meth.sig)) = true) : (Jvm.Cond.code y bytes mx rt).before a s = true := by
  simp only [Bool.and_eq_true, beq_iff_eq, Bool.not_eq_true', decide_eq_true_eq] at h5
  obtain ⟨⟨⟨⟨⟨g1, g2⟩, g3⟩, g4⟩, g5⟩, g6⟩ := h5
  simp [Cond.before, Cond.holds, Cond.value, h1, h2, h3, h4, g1, g2, g3, g4, g5, g6]
def isCode : Jvm.Cond → Bool
  | .code _ _ _ _ => true
  | _ => false
theorem all_split {L : List Jvm.Cond} {P : Jvm.Cond → Bool} (h1 : L.all (fun c => isCode c || P c) = true) (h2 : ∀ c ∈ L.filter isCode, P c = true) : L.all P = true := by
  refine List.all_eq_true.mpr fun c hc => ?_
  have h := List.all_eq_true.mp h1 c hc
  rcases Bool.eq_false_or_eq_true (isCode c) with hi | hi
  · exact h2 c (List.mem_filter.mpr ⟨hc, hi⟩)
  · simpa [hi] using h
set_option maxRecDepth 65536 in
theorem w_c0 : (Jvm.Cond.code x code maxLocals ret).before args0 about1 = true := code_word (m := ⟨1, 1⟩) (meth := k1m1) (c := k1c1) (by decide +kernel) rfl rfl rfl (by decide +kernel)
set_option maxRecDepth 65536 in
theorem w_c1 : (Jvm.Cond.code ({ cls := "com/example/evenkeel/evenkeel/sim/LaneLayouts", name := "<init>", desc := "()V" } : Jvm.MethodName) prog_130_method_1_code (1 : Nat) (Option.none : Option Jvm.ClassFile.FieldType)).before args0 about1 = true := code_word (m := ⟨2, 0⟩) (meth := k2m0) (c := k2c0) (by decide +kernel) rfl rfl rfl (by decide +kernel)
set_option maxRecDepth 65536 in
theorem w_c2 : (Jvm.Cond.code ({ cls := "java/lang/Object", name := "<init>", desc := "()V" } : Jvm.MethodName) object_method_1_code (1 : Nat) (Option.none : Option Jvm.ClassFile.FieldType)).before args0 about1 = true := code_word (m := ⟨0, 0⟩) (meth := k0m0) (c := k0c0) (by decide +kernel) rfl rfl rfl (by decide +kernel)
set_option maxRecDepth 65536 in
theorem w_c3 : (Jvm.Cond.code ({ cls := "com/example/evenkeel/evenkeel/sim/LaneLayouts", name := "append", desc := "(J)V" } : Jvm.MethodName) prog_130_method_4_code (4 : Nat) (Option.none : Option Jvm.ClassFile.FieldType)).before args0 about1 = true := code_word (m := ⟨2, 2⟩) (meth := k2m2) (c := k2c2) (by decide +kernel) rfl rfl rfl (by decide +kernel)
set_option maxRecDepth 65536 in
theorem w_c4 : (Jvm.Cond.code ({ cls := "com/example/evenkeel/evenkeel/sim/LaneLayouts", name := "dropFirst", desc := "()V" } : Jvm.MethodName) prog_130_method_5_code (3 : Nat) (Option.none : Option Jvm.ClassFile.FieldType)).before args0 about1 = true := code_word (m := ⟨2, 3⟩) (meth := k2m3) (c := k2c3) (by decide +kernel) rfl rfl rfl (by decide +kernel)
set_option maxRecDepth 65536 in
theorem w_c5 : (Jvm.Cond.code ({ cls := "com/example/evenkeel/evenkeel/sim/LaneLayouts", name := "size", desc := "()I" } : Jvm.MethodName) prog_130_method_3_code (1 : Nat) (Option.some Jvm.ClassFile.FieldType.int)).before args0 about1 = true := code_word (m := ⟨2, 1⟩) (meth := k2m1) (c := k2c1) (by decide +kernel) rfl rfl rfl (by decide +kernel)
set_option maxRecDepth 65536 in
theorem w_c6 : (Jvm.Cond.code ({ cls := "com/example/evenkeel/evenkeel/sim/LaneLayouts", name := "starts", desc := "([J)[J" } : Jvm.MethodName) prog_130_method_6_code (5 : Nat) (Option.some (Jvm.ClassFile.FieldType.array Jvm.ClassFile.FieldType.long))).before args0 about1 = true := code_word (m := ⟨2, 4⟩) (meth := k2m4) (c := k2c4) (by decide +kernel) rfl rfl rfl (by decide +kernel)
set_option maxRecDepth 65536 in
theorem w_c7 : (Jvm.Cond.code ({ cls := "java/util/Arrays", name := "sort", desc := "([J)V" } : Jvm.MethodName) jdk_65_method_4_code (1 : Nat) (Option.none : Option Jvm.ClassFile.FieldType)).before args0 about1 = true := code_word (m := ⟨4, 1⟩) (meth := k4m1) (c := k4c1) (by decide +kernel) rfl rfl rfl (by decide +kernel)
set_option maxRecDepth 65536 in
theorem w_c8 : (Jvm.Cond.code ({ cls := "java/util/DualPivotQuicksort", name := "sort", desc := "([JIII)V" } : Jvm.MethodName) jdk_2529_method_12_code (7 : Nat) (Option.none : Option Jvm.ClassFile.FieldType)).before args0 about1 = true := code_word (m := ⟨5, 1⟩) (meth := k5m1) (c := k5c1) (by decide +kernel) rfl rfl rfl (by decide +kernel)
set_option maxRecDepth 65536 in
theorem w_c9 : (Jvm.Cond.code ({ cls := "java/util/DualPivotQuicksort", name := "sort", desc := "(Ljava/util/DualPivotQuicksort$Sorter;[JIII)V" } : Jvm.MethodName) jdk_2529_method_13_code (25 : Nat) (Option.none : Option Jvm.ClassFile.FieldType)).before args0 about1 = true := code_word (m := ⟨5, 2⟩) (meth := k5m2) (c := k5c2) (by decide +kernel) rfl rfl rfl (by decide +kernel)
set_option maxRecDepth 65536 in
theorem w_c10 : (Jvm.Cond.code ({ cls := "java/util/DualPivotQuicksort", name := "insertionSort", desc := "([JII)V" } : Jvm.MethodName) jdk_2529_method_15_code (7 : Nat) (Option.none : Option Jvm.ClassFile.FieldType)).before args0 about1 = true := code_word (m := ⟨5, 3⟩) (meth := k5m3) (c := k5c3) (by decide +kernel) rfl rfl rfl (by decide +kernel)
set_option maxRecDepth 65536 in
theorem w_c11 : (Jvm.Cond.code ({ cls := "com/example/evenkeel/evenkeel/sim/LaneLayouts", name := "take", desc := "([JJ)V" } : Jvm.MethodName) prog_130_method_11_code (8 : Nat) (Option.none : Option Jvm.ClassFile.FieldType)).before args0 about1 = true := code_word (m := ⟨2, 7⟩) (meth := k2m7) (c := k2c7) (by decide +kernel) rfl rfl rfl (by decide +kernel)
set_option maxRecDepth 65536 in
theorem w_c12 : (Jvm.Cond.code ({ cls := "com/example/evenkeel/evenkeel/sim/LaneLayouts", name := "layOut", desc := "([J)J" } : Jvm.MethodName) prog_130_method_7_code (8 : Nat) (Option.some Jvm.ClassFile.FieldType.long)).before args0 about1 = true := code_word (m := ⟨2, 5⟩) (meth := k2m5) (c := k2c5) (by decide +kernel) rfl rfl rfl (by decide +kernel)
set_option maxRecDepth 65536 in
theorem w_c13 : (Jvm.Cond.code ({ cls := "com/example/evenkeel/evenkeel/sim/LaneLayouts", name := "tallestFrom", desc := "(II)I" } : Jvm.MethodName) prog_130_method_8_code (3 : Nat) (Option.some Jvm.ClassFile.FieldType.int)).before args0 about1 = true := code_word (m := ⟨2, 6⟩) (meth := k2m6) (c := k2c6) (by decide +kernel) rfl rfl rfl (by decide +kernel)
def codes1 : List Jvm.Cond := [Jvm.Cond.code x code maxLocals ret, Jvm.Cond.code ({ cls := "com/example/evenkeel/evenkeel/sim/LaneLayouts", name := "<init>", desc := "()V" } : Jvm.MethodName) prog_130_method_1_code (1 : Nat) (Option.none : Option Jvm.ClassFile.FieldType), Jvm.Cond.code ({ cls := "java/lang/Object", name := "<init>", desc := "()V" } : Jvm.MethodName) object_method_1_code (1 : Nat) (Option.none : Option Jvm.ClassFile.FieldType), Jvm.Cond.code ({ cls := "com/example/evenkeel/evenkeel/sim/LaneLayouts", name := "append", desc := "(J)V" } : Jvm.MethodName) prog_130_method_4_code (4 : Nat) (Option.none : Option Jvm.ClassFile.FieldType), Jvm.Cond.code ({ cls := "com/example/evenkeel/evenkeel/sim/LaneLayouts", name := "dropFirst", desc := "()V" } : Jvm.MethodName) prog_130_method_5_code (3 : Nat) (Option.none : Option Jvm.ClassFile.FieldType), Jvm.Cond.code ({ cls := "com/example/evenkeel/evenkeel/sim/LaneLayouts", name := "size", desc := "()I" } : Jvm.MethodName) prog_130_method_3_code (1 : Nat) (Option.some Jvm.ClassFile.FieldType.int), Jvm.Cond.code ({ cls := "com/example/evenkeel/evenkeel/sim/LaneLayouts", name := "starts", desc := "([J)[J" } : Jvm.MethodName) prog_130_method_6_code (5 : Nat) (Option.some (Jvm.ClassFile.FieldType.array Jvm.ClassFile.FieldType.long)), Jvm.Cond.code ({ cls := "java/util/Arrays", name := "sort", desc := "([J)V" } : Jvm.MethodName) jdk_65_method_4_code (1 : Nat) (Option.none : Option Jvm.ClassFile.FieldType), Jvm.Cond.code ({ cls := "java/util/DualPivotQuicksort", name := "sort", desc := "([JIII)V" } : Jvm.MethodName) jdk_2529_method_12_code (7 : Nat) (Option.none : Option Jvm.ClassFile.FieldType), Jvm.Cond.code ({ cls := "java/util/DualPivotQuicksort", name := "sort", desc := "(Ljava/util/DualPivotQuicksort$Sorter;[JIII)V" } : Jvm.MethodName) jdk_2529_method_13_code (25 : Nat) (Option.none : Option Jvm.ClassFile.FieldType), Jvm.Cond.code ({ cls := "java/util/DualPivotQuicksort", name := "insertionSort", desc := "([JII)V" } : Jvm.MethodName) jdk_2529_method_15_code (7 : Nat) (Option.none : Option Jvm.ClassFile.FieldType), Jvm.Cond.code ({ cls := "com/example/evenkeel/evenkeel/sim/LaneLayouts", name := "take", desc := "([JJ)V" } : Jvm.MethodName) prog_130_method_11_code (8 : Nat) (Option.none : Option Jvm.ClassFile.FieldType), Jvm.Cond.code ({ cls := "com/example/evenkeel/evenkeel/sim/LaneLayouts", name := "layOut", desc := "([J)J" } : Jvm.MethodName) prog_130_method_7_code (8 : Nat) (Option.some Jvm.ClassFile.FieldType.long), Jvm.Cond.code ({ cls := "com/example/evenkeel/evenkeel/sim/LaneLayouts", name := "tallestFrom", desc := "(II)I" } : Jvm.MethodName) prog_130_method_8_code (3 : Nat) (Option.some Jvm.ClassFile.FieldType.int)]
set_option maxRecDepth 65536 in
theorem codes_eq : words1.filter isCode = codes1 := rfl
theorem w_codes : ∀ c ∈ words1.filter isCode, c.before args0 about1 = true := by
  rw [codes_eq]
  intro c hc
  simp only [codes1, List.mem_cons, List.not_mem_nil, or_false] at hc
  rcases hc with rfl | rfl | rfl | rfl | rfl | rfl | rfl | rfl | rfl | rfl | rfl | rfl | rfl | rfl
  · exact w_c0
  · exact w_c1
  · exact w_c2
  · exact w_c3
  · exact w_c4
  · exact w_c5
  · exact w_c6
  · exact w_c7
  · exact w_c8
  · exact w_c9
  · exact w_c10
  · exact w_c11
  · exact w_c12
  · exact w_c13
set_option maxRecDepth 65536 in
theorem w_t1 : (words1.take 24).all (fun c => isCode c || c.before args0 about1) = true := by decide +kernel
set_option maxRecDepth 65536 in
theorem w_t2 : ((words1.drop 24).take 24).all (fun c => isCode c || c.before args0 about1) = true := by decide +kernel
set_option maxRecDepth 65536 in
theorem w_t3 : (((words1.drop 24).drop 24).take 24).all (fun c => isCode c || c.before args0 about1) = true := by decide +kernel
set_option maxRecDepth 65536 in
theorem w_t4 : (((words1.drop 24).drop 24).drop 24).all (fun c => isCode c || c.before args0 about1) = true := by decide +kernel
theorem w_tables : (allAtoms (Jvm.Cond.code x code maxLocals ret :: tables_1)).before args0 about1 = true := by
  rw [allAtoms_all]
  show words1.all (fun c => c.before args0 about1) = true
  refine all_split ?_ w_codes
  rw [← List.take_append_drop 24 words1, List.all_append, w_t1, ← List.take_append_drop 24 (words1.drop 24), List.all_append, w_t2, ← List.take_append_drop 24 ((words1.drop 24).drop 24), List.all_append, w_t3, w_t4]
  rfl
set_option maxRecDepth 65536 in
theorem w_case : (Jvm.Cond.and given_1 narrow_1).before args0 about1 = true := by decide +kernel
theorem w_applies : (headSpec (Jvm.Cond.code x code maxLocals ret :: tables_1) room_1).applies x e0.platform about1 = true :=
  (Spec.applies_iff w_frames).mpr ⟨w_running, w_runnable, w_alone, w_named, w_hears, w_ripe, w_room, w_tables⟩
theorem atStart : AtStart classFile x code maxLocals ret World_1 tables_1 room_1 Calls_1 rest_1 Pre_1 launch0 p0 e0 about1 theMethod args0 below0 :=
  ⟨lists_1, trivial, launch0.admits_env _ _ _, launch0.least_env, fairChoices_fair.cas, fairChoices_fair.clock, w_frames, w_args, w_heap, w_applies, trivial, trivial, w_case⟩
end start1
theorem witness_1 : WitnessClaimed_1 := ⟨start1.p0, start1.e0, start1.about1, start1.theMethod, start1.args0, start1.below0, start1.atStart⟩
end Jvm.Pilot.@@N@@
