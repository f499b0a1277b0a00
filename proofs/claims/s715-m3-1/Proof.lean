import JvmDerived
import JvmDerived.Pilot.@@N@@Statement
import JvmDerived.Pilot.@@N@@Code
set_option linter.unusedVariables false
set_option linter.unusedSimpArgs false
namespace Jvm.Pilot.@@N@@
open Jvm Jvm.ClassFile Sem Op Lib Jvm.Free Jvm.Stand Jvm.LawKit Jvm.RoadKit Bundle Jvm.Pilot.@@N@@.Jvm.D
/-- from the state A the run comes to an end with P -/
def Gl (tb : Tables) (e : Env) (below : List Frame) (P : Outcome → State → Prop) (A : State) : Prop := ∃ U o, Steps tb e below A U ∧ U.status = .running ∧ Ended U below o ∧ P o U
theorem Gl.go {tb : Tables} {e : Env} {below : List Frame} {P : Outcome → State → Prop} {A B : State} (h : ∀ t, Steps tb e below B t → Steps tb e below A t) (k : Gl tb e below P B) : Gl tb e below P A := by
  obtain ⟨U, o, h1, r⟩ := k
  exact ⟨U, o, h U h1, r⟩
theorem Gl.st {tb : Tables} {e : Env} {below : List Frame} {P : Outcome → State → Prop} {A B : State} (h : Steps tb e below A B) (k : Gl tb e below P B) : Gl tb e below P A := by
  obtain ⟨U, o, h1, r⟩ := k
  exact ⟨U, o, h.trans h1, r⟩
/-- from the state A the run comes to the frame F over a state of which P holds -/
def Sg (P : State → Prop) (F : JFrame) (tb : Tables) (e : Env) (below : List Frame) (A : State) : Prop := ∃ T, P T ∧ ∀ t, Steps tb e below (T.setTop F) t → Steps tb e below A t
theorem Sg.go {P : State → Prop} {F : JFrame} {tb : Tables} {e : Env} {below : List Frame} {A B : State} (h : ∀ t, Steps tb e below B t → Steps tb e below A t) (k : Sg P F tb e below B) : Sg P F tb e below A := by
  obtain ⟨T, h1, h2⟩ := k
  exact ⟨T, h1, fun t ht => h t (h2 t ht)⟩
theorem Sg.st {P : State → Prop} {F : JFrame} {tb : Tables} {e : Env} {below : List Frame} {A B : State} (h : Steps tb e below A B) (k : Sg P F tb e below B) : Sg P F tb e below A := by
  obtain ⟨T, h1, h2⟩ := k
  exact ⟨T, h1, fun t ht => h.trans (h2 t ht)⟩
/-- what is shown of a state holds also where the run comes from -/
def Cl (tb : Tables) (e : Env) (below : List Frame) (K : State → Prop) : Prop := ∀ A B, (∀ t, Steps tb e below B t → Steps tb e below A t) → K B → K A
theorem Gl.cl {tb : Tables} {e : Env} {below : List Frame} {P : Outcome → State → Prop} : Cl tb e below (Gl tb e below P) := fun _ _ h k => Gl.go h k
theorem Sg.cl {P : State → Prop} {F : JFrame} {tb : Tables} {e : Env} {below : List Frame} : Cl tb e below (Sg P F tb e below) := fun _ _ h k => Sg.go h k
section Glue
variable {p : Program} {l : Launch} {e : Env} {R : Room} {s : State} {m : MethodId} {args : Array Value} {below : List Frame} {meth : Method} {c : Code} {T : State} {locs : List Loc} {cells slots : Nat} {Z : State} {a0 : Array Value} {h : Heap} {K0 : State → Prop} {pc : Nat} {Ls : Array Slot} {Ks : List Value} {rest : List Value}
theorem gGetF {own R0 O n d host : String} {index : Nat} {a : Addr} {v : Value} (hG : Cl p.tables e below K0) (X : Stand p l e R s m args below meth c T locs cells slots) (hx : p.tables.exec = Jvm.exec) (hZ : Z.Warmed39 s.vm) (hown : s.vm.findClass own = some m.cls) (w : (Cond.fieldLink own index R0 n d).before a0 Z = true ∨ (Cond.fieldLinkNest own index R0 n d host).before a0 Z = true) (via : Via Z R0 O n d) (eT : T.heap = h) (F : Fld Z h a O n d v) (hg : m = m) (hs : Ks = .ref a :: rest) (hd : decode c.code pc = .ok (.getfield index, 3))
    (k : ∀ T', Stand p l e R s m args below meth c T' locs cells slots → T'.heap = h → K0 (T'.setTop (mkF m (pc + 3) (Ls) (v :: rest)))) : K0 (T.setTop (mkF m pc Ls Ks)) := by
  obtain ⟨T', X', e', st⟩ := getF (g := mkF m pc Ls Ks) X hx hZ hown w via eT F hg hs hd
  exact hG _ _ st (k T' X' e')
theorem gGetS {own R0 O n d host : String} {index : Nat} {v : Value} (hG : Cl p.tables e below K0) (X : Stand p l e R s m args below meth c T locs cells slots) (hx : p.tables.exec = Jvm.exec) (hZ : Z.Warmed39 s.vm) (hown : s.vm.findClass own = some m.cls) (w : (Cond.fieldLink own index R0 n d).before a0 Z = true ∨ (Cond.fieldLinkNest own index R0 n d host).before a0 Z = true) (via : Via Z R0 O n d) (eT : T.heap = h) (F : Sta Z h O n d v) (hg : m = m) (hd : decode c.code pc = .ok (.getstatic index, 3))
    (k : ∀ T', Stand p l e R s m args below meth c T' locs cells slots → T'.heap = h → K0 (T'.setTop (mkF m (pc + 3) (Ls) (v :: Ks)))) : K0 (T.setTop (mkF m pc Ls Ks)) := by
  obtain ⟨T', X', e', st⟩ := getS2 (g := mkF m pc Ls Ks) X hx hZ hown w via eT F hg hd
  exact hG _ _ st (k T' X' e')
theorem gPutF {own R0 O n d host C : String} {index kk : Nat} {ty : FieldType} {a : Addr} {v old : Value} (hG : Cl p.tables e below K0) (X : Stand p l e R s m args below meth c T locs cells slots) (hx : p.tables.exec = Jvm.exec) (hZ : Z.Warmed39 s.vm) (hown : s.vm.findClass own = some m.cls) (w : (Cond.fieldLink own index R0 n d).before a0 Z = true ∨ (Cond.fieldLinkNest own index R0 n d host).before a0 Z = true) (via : Via Z R0 O n d) (eT : T.heap = h) (F : Fld Z h a O n d old) (E : Exa Z h a C) (L : (Cond.lays C O n d).before a0 Z = true ∨ ((Cond.laysFinal C O n d).before a0 Z = true ∧ own = O ∧ meth.name = "<init>")) (wi : (Cond.instantiable C kk).before a0 Z = true) (hty : parseFieldDescriptor d = some ty) (hn : narrow ty v = v) (hf : fits ty v = true) (hg : m = m) (hs : Ks = v :: .ref a :: rest) (hd : decode c.code pc = .ok (.putfield index, 3))
    (k : ∀ T' h', Stand p l e R s m args below meth c T' (locs ++ [⟨a, Jvm.RoadKit.slotOf Z O n d⟩]) cells slots → T'.heap = h' → Wr h h' a (Jvm.RoadKit.slotOf Z O n d) v → K0 (T'.setTop (mkF m (pc + 3) (Ls) (rest)))) : K0 (T.setTop (mkF m pc Ls Ks)) := by
  obtain ⟨T', h', X', e', W, st⟩ := putF (g := mkF m pc Ls Ks) X hx hZ hown w via eT F E L wi hty hn hf hg hs hd
  exact hG _ _ st (k T' h' X' e' W)
theorem gPutFN {own R0 O n d C : String} {index kk : Nat} {ty : FieldType} {a : Addr} {v v' old : Value} (hG : Cl p.tables e below K0) (X : Stand p l e R s m args below meth c T locs cells slots) (hx : p.tables.exec = Jvm.exec) (hZ : Z.Warmed39 s.vm) (hown : s.vm.findClass own = some m.cls) (w : (Cond.fieldLink own index R0 n d).before a0 Z = true) (via : Via Z R0 O n d) (eT : T.heap = h) (F : Fld Z h a O n d old) (E : Exa Z h a C) (L : (Cond.lays C O n d).before a0 Z = true ∨ ((Cond.laysFinal C O n d).before a0 Z = true ∧ own = O ∧ meth.name = "<init>")) (wi : (Cond.instantiable C kk).before a0 Z = true) (hty : parseFieldDescriptor d = some ty) (hn : narrow ty v = v') (hf : fits ty v' = true) (hg : m = m) (hs : Ks = v :: .ref a :: rest) (hd : decode c.code pc = .ok (.putfield index, 3))
    (k : ∀ T' h', Stand p l e R s m args below meth c T' (locs ++ [⟨a, Jvm.RoadKit.slotOf Z O n d⟩]) cells slots → T'.heap = h' → Wr h h' a (Jvm.RoadKit.slotOf Z O n d) v' → K0 (T'.setTop (mkF m (pc + 3) (Ls) (rest)))) : K0 (T.setTop (mkF m pc Ls Ks)) := by
  obtain ⟨T', h', X', e', W, st⟩ := putFN (g := mkF m pc Ls Ks) X hx hZ hown w via eT F E L wi hty hn hf hg hs hd
  exact hG _ _ st (k T' h' X' e' W)
theorem gCast {own K : String} {index : Nat} {a : Addr} (hG : Cl p.tables e below K0) (X : Stand p l e R s m args below meth c T locs cells slots) (hx : p.tables.exec = Jvm.exec) (hZ : Z.Warmed39 s.vm) (hown : s.vm.findClass own = some m.cls) (w : (Cond.classLink own index K).before a0 Z = true) (eT : T.heap = h) (F : Ins Z h a K true) (hg : m = m) (hs : Ks = .ref a :: rest) (hd : decode c.code pc = .ok (.checkcast index, 3))
    (k : ∀ T', Stand p l e R s m args below meth c T' locs cells slots → T'.heap = h → K0 (T'.setTop (mkF m (pc + 3) (Ls) (Ks)))) : K0 (T.setTop (mkF m pc Ls Ks)) := by
  obtain ⟨T', X', e', st⟩ := castY (g := mkF m pc Ls Ks) X hx hZ hown w eT F hg hs hd
  exact hG _ _ st (k T' X' e')
theorem gInst {own K : String} {index : Nat} {a : Addr} (hG : Cl p.tables e below K0) (X : Stand p l e R s m args below meth c T locs cells slots) (hx : p.tables.exec = Jvm.exec) (hZ : Z.Warmed39 s.vm) (hown : s.vm.findClass own = some m.cls) (w : (Cond.classLink own index K).before a0 Z = true) (eT : T.heap = h) (F : Ins Z h a K true) (hg : m = m) (hs : Ks = .ref a :: rest) (hd : decode c.code pc = .ok (.instanceof index, 3))
    (k : ∀ T', Stand p l e R s m args below meth c T' locs cells slots → T'.heap = h → K0 (T'.setTop (mkF m (pc + 3) (Ls) (.int 1 :: rest)))) : K0 (T.setTop (mkF m pc Ls Ks)) := by
  obtain ⟨T', X', e', st⟩ := instY (g := mkF m pc Ls Ks) X hx hZ hown w eT F hg hs hd
  exact hG _ _ st (k T' X' e')
theorem gInit {own : String} {idx : Nat} {a : Addr} {W : Nat} (hG : Cl p.tables e below K0) (X : Stand p l e R s m args below meth c T locs cells slots) (hx : p.tables.exec = Jvm.exec) (hZ : Z.Warmed39 s.vm) (hown : s.vm.findClass own = some m.cls) (w1 : (Cond.methodLink own idx Lib.objectInit).before a0 Z = true) (w2 : (Cond.instanceMethod Lib.objectInit).before a0 Z = true) (w3 : (Cond.code Lib.objectInit ⟨#[0xb1]⟩ 1 none).before a0 Z = true) (eT : T.heap = h) (hg : m = m) (hsize : Ls.size = c.maxLocals) (hs : Ks = .ref a :: rest) (hd : decode c.code pc = .ok (.invokespecial idx, 3)) (hf : 1 ≤ R.frames) (hW : 2 * 0 + (rest.map fun v => v.category).sum ≤ W) (hl : W + 12 ≤ R.locals)
    (k : ∀ T', Stand p l e R s m args below meth c T' locs cells slots → T'.heap = h → K0 (T'.setTop (mkF m (pc + 3) (Ls) (rest)))) : K0 (T.setTop (mkF m pc Ls Ks)) := by
  obtain ⟨T', X', e', st⟩ := initO (g := mkF m pc Ls Ks) X hx hZ hown w1 w2 w3 eT hg hsize hs hd hf hW hl
  exact hG _ _ st (k T' X' e')
theorem gNew {own C : String} {index n : Nat} (hG : Cl p.tables e below K0) (X : Stand p l e R s m args below meth c T locs cells slots) (hx : p.tables.exec = Jvm.exec) (hZ : Z.Warmed39 s.vm) (hown : s.vm.findClass own = some m.cls) (w : (Cond.classLink own index C).before a0 Z = true) (wi : (Cond.instantiable C n).before a0 Z = true) (wz : (Cond.initialized C).before a0 Z = true) (eT : T.heap = h) (hg : m = m) (hd : decode c.code pc = .ok (.new index, 3)) (hc : cells + 1 ≤ R.cells) (hl : slots + n ≤ R.slots)
    (k : ∀ T' h' b, b = h.size → Stand p l e R s m args below meth c T' locs (cells + 1) (slots + n) → T'.heap = h' → Ext h h' → Exa Z h' b C → (∀ {O nm d : String} {ty : FieldType}, Laid Z a0 C O nm d → parseFieldDescriptor d = some ty → Fld Z h' b O nm d (defaultValue ty)) → K0 (T'.setTop (mkF m (pc + 3) (Ls) (.ref b :: Ks)))) : K0 (T.setTop (mkF m pc Ls Ks)) := by
  obtain ⟨T', h', X', e', E, A, D, -, st⟩ := newO (g := mkF m pc Ls Ks) X hx hZ hown w wi wz eT hg hd hc hl
  exact hG _ _ st (k T' h' _ rfl X' e' E A D)
theorem gNewP {aty : ArrayType} {n : Int32} {cap : Nat} (hG : Cl p.tables e below K0) (X : Stand p l e R s m args below meth c T locs cells slots) (hx : p.tables.exec = Jvm.exec) (hZ : Z.Warmed39 s.vm) (w : (Cond.arrayClass (newarray.typeOf aty)).before a0 Z = true) (eT : T.heap = h) (hg : m = m) (hd : decode c.code pc = .ok (.newarray aty, 2)) (hs : Ks = .int n :: rest) (hn : ¬ n < 0) (hcap : n.toNatClampNeg ≤ cap) (hb : cap * 8 ≤ 536870912) (hc : cells + 1 ≤ R.cells) (hl : slots + cap ≤ R.slots)
    (k : ∀ T' h' b cA, b = h.size → Stand p l e R s m args below meth c T' locs (cells + 1) (slots + cap) → T'.heap = h' → Ext h h' → Arr Z h' b (newA cA (newarray.typeOf aty) n) (newarray.typeOf aty) → K0 (T'.setTop (mkF m (pc + 2) (Ls) (.ref b :: rest)))) : K0 (T.setTop (mkF m pc Ls Ks)) := by
  obtain ⟨T', h', cA, X', e', E, A, st⟩ := newP (g := mkF m pc Ls Ks) X hx hZ w eT hg hd hs hn hcap hb hc hl
  exact hG _ _ st (k T' h' _ cA rfl X' e' E A)
theorem gNewPE {aty : ArrayType} {n : Int32} {cap : Nat} {ad : String} (hG : Cl p.tables e below K0) (X : Stand p l e R s m args below meth c T locs cells slots) (hx : p.tables.exec = Jvm.exec) (hZ : Z.Warmed39 s.vm) (w : (Cond.arrayClass (newarray.typeOf aty)).before a0 Z = true) (eT : T.heap = h) (hg : m = m) (hd : decode c.code pc = .ok (.newarray aty, 2)) (hs : Ks = .int n :: rest) (hn : ¬ n < 0) (hcap : n.toNatClampNeg ≤ cap) (hb : cap * 8 ≤ 536870912) (hc : cells + 1 ≤ R.cells) (hl : slots + cap ≤ R.slots) (had : "[" ++ (newarray.typeOf aty).toString = ad)
    (k : ∀ T' h' b cA, b = h.size → Stand p l e R s m args below meth c T' locs (cells + 1) (slots + cap) → T'.heap = h' → Ext h h' → Arr Z h' b (newA cA (newarray.typeOf aty) n) (newarray.typeOf aty) → Exa Z h' b ad → K0 (T'.setTop (mkF m (pc + 2) (Ls) (.ref b :: rest)))) : K0 (T.setTop (mkF m pc Ls Ks)) := by
  obtain ⟨T', h', cA, X', e', E, A, B, st⟩ := newPE (g := mkF m pc Ls Ks) X hx hZ w eT hg hd hs hn hcap hb hc hl had
  exact hG _ _ st (k T' h' _ cA rfl X' e' E A B)
theorem gstC {a : Addr} {cl : Cell} {j : Int32} {x : Int32} (hG : Cl p.tables e below K0) (X : Stand p l e R s m args below meth c T locs cells slots) (hx : p.tables.exec = Jvm.exec) (hZ : Z.Warmed39 s.vm) (eT : T.heap = h) (A : Arr Z h a cl .char) (hj : ¬ (j < 0 ∨ cl.slots.size ≤ j.toNatClampNeg)) (hg : m = m) (hs : Ks = .int x :: .int j :: .ref a :: rest) (hd : decode c.code pc = .ok (.castore, 1))
    (k : ∀ T' h', Stand p l e R s m args below meth c T' (locs ++ [⟨a, j.toNatClampNeg⟩]) cells slots → T'.heap = h' → Wr h h' a j.toNatClampNeg (.int (nar .char x)) → K0 (T'.setTop (mkF m (pc + 1) (Ls) (rest)))) : K0 (T.setTop (mkF m pc Ls Ks)) := by
  obtain ⟨T', h', X', e', W, st⟩ := stC (g := mkF m pc Ls Ks) X hx hZ eT A hj hg hs hd
  exact hG _ _ st (k T' h' X' e' W)
theorem gstI {a : Addr} {cl : Cell} {j : Int32} {x : Int32} (hG : Cl p.tables e below K0) (X : Stand p l e R s m args below meth c T locs cells slots) (hx : p.tables.exec = Jvm.exec) (hZ : Z.Warmed39 s.vm) (eT : T.heap = h) (A : Arr Z h a cl .int) (hj : ¬ (j < 0 ∨ cl.slots.size ≤ j.toNatClampNeg)) (hg : m = m) (hs : Ks = .int x :: .int j :: .ref a :: rest) (hd : decode c.code pc = .ok (.iastore, 1))
    (k : ∀ T' h', Stand p l e R s m args below meth c T' (locs ++ [⟨a, j.toNatClampNeg⟩]) cells slots → T'.heap = h' → Wr h h' a j.toNatClampNeg (.int x) → K0 (T'.setTop (mkF m (pc + 1) (Ls) (rest)))) : K0 (T.setTop (mkF m pc Ls Ks)) := by
  obtain ⟨T', h', X', e', W, st⟩ := stI (g := mkF m pc Ls Ks) X hx hZ eT A hj hg hs hd
  exact hG _ _ st (k T' h' X' e' W)
theorem gstB {a : Addr} {cl : Cell} {j : Int32} {x : Int32} (hG : Cl p.tables e below K0) (X : Stand p l e R s m args below meth c T locs cells slots) (hx : p.tables.exec = Jvm.exec) (hZ : Z.Warmed39 s.vm) (eT : T.heap = h) (A : Arr Z h a cl .byte) (hj : ¬ (j < 0 ∨ cl.slots.size ≤ j.toNatClampNeg)) (hg : m = m) (hs : Ks = .int x :: .int j :: .ref a :: rest) (hd : decode c.code pc = .ok (.bastore, 1))
    (k : ∀ T' h', Stand p l e R s m args below meth c T' (locs ++ [⟨a, j.toNatClampNeg⟩]) cells slots → T'.heap = h' → Wr h h' a j.toNatClampNeg (.int (nar .byte x)) → K0 (T'.setTop (mkF m (pc + 1) (Ls) (rest)))) : K0 (T.setTop (mkF m pc Ls Ks)) := by
  obtain ⟨T', h', X', e', W, st⟩ := stB (g := mkF m pc Ls Ks) X hx hZ eT A hj hg hs hd
  exact hG _ _ st (k T' h' X' e' W)
theorem gstJ {a : Addr} {cl : Cell} {j : Int32} {x : Int64} (hG : Cl p.tables e below K0) (X : Stand p l e R s m args below meth c T locs cells slots) (hx : p.tables.exec = Jvm.exec) (hZ : Z.Warmed39 s.vm) (eT : T.heap = h) (A : Arr Z h a cl .long) (hj : ¬ (j < 0 ∨ cl.slots.size ≤ j.toNatClampNeg)) (hg : m = m) (hs : Ks = .long x :: .int j :: .ref a :: rest) (hd : decode c.code pc = .ok (.lastore, 1))
    (k : ∀ T' h', Stand p l e R s m args below meth c T' (locs ++ [⟨a, j.toNatClampNeg⟩]) cells slots → T'.heap = h' → Wr h h' a j.toNatClampNeg (.long x) → K0 (T'.setTop (mkF m (pc + 1) (Ls) (rest)))) : K0 (T.setTop (mkF m pc Ls Ks)) := by
  obtain ⟨T', h', X', e', W, st⟩ := stJ (g := mkF m pc Ls Ks) X hx hZ eT A hj hg hs hd
  exact hG _ _ st (k T' h' X' e' W)
theorem g_iaload {a : Addr} {cl : Cell} {j : Int32} {v : Value} (hG : Cl p.tables e below K0) (X : Stand p l e R s m args below meth c T locs cells slots) (hx : p.tables.exec = Jvm.exec) (hZ : Z.Warmed39 s.vm) (eT : T.heap = h) (A : Arr Z h a cl .int) (hj : ¬ (j < 0 ∨ cl.slots.size ≤ j.toNatClampNeg)) (hv : cl.slots[j.toNatClampNeg]? = some v) (hg : m = m) (hs : Ks = .int j :: .ref a :: rest) (hd : decode c.code pc = .ok (.iaload, 1))
    (k : K0 (T.setTop (mkF m (pc + 1) (Ls) (v :: rest)))) : K0 (T.setTop (mkF m pc Ls Ks)) :=
  hG _ _ (X.iaload (g := mkF m pc Ls Ks) hx (by rw [eT]; exact A.1) (State.isArrayOf_alike hZ.alike A.2.1) A.2.2 hj hv hg hs hd) k
theorem g_laload {a : Addr} {cl : Cell} {j : Int32} {v : Value} (hG : Cl p.tables e below K0) (X : Stand p l e R s m args below meth c T locs cells slots) (hx : p.tables.exec = Jvm.exec) (hZ : Z.Warmed39 s.vm) (eT : T.heap = h) (A : Arr Z h a cl .long) (hj : ¬ (j < 0 ∨ cl.slots.size ≤ j.toNatClampNeg)) (hv : cl.slots[j.toNatClampNeg]? = some v) (hg : m = m) (hs : Ks = .int j :: .ref a :: rest) (hd : decode c.code pc = .ok (.laload, 1))
    (k : K0 (T.setTop (mkF m (pc + 1) (Ls) (v :: rest)))) : K0 (T.setTop (mkF m pc Ls Ks)) :=
  hG _ _ (X.laload (g := mkF m pc Ls Ks) hx (by rw [eT]; exact A.1) (State.isArrayOf_alike hZ.alike A.2.1) A.2.2 hj hv hg hs hd) k
theorem g_caload {a : Addr} {cl : Cell} {j : Int32} {v : Value} (hG : Cl p.tables e below K0) (X : Stand p l e R s m args below meth c T locs cells slots) (hx : p.tables.exec = Jvm.exec) (hZ : Z.Warmed39 s.vm) (eT : T.heap = h) (A : Arr Z h a cl .char) (hj : ¬ (j < 0 ∨ cl.slots.size ≤ j.toNatClampNeg)) (hv : cl.slots[j.toNatClampNeg]? = some v) (hg : m = m) (hs : Ks = .int j :: .ref a :: rest) (hd : decode c.code pc = .ok (.caload, 1))
    (k : K0 (T.setTop (mkF m (pc + 1) (Ls) (v :: rest)))) : K0 (T.setTop (mkF m pc Ls Ks)) :=
  hG _ _ (X.caload (g := mkF m pc Ls Ks) hx (by rw [eT]; exact A.1) (State.isArrayOf_alike hZ.alike A.2.1) A.2.2 hj hv hg hs hd) k
theorem g_baload {a : Addr} {cl : Cell} {j : Int32} {v : Value} (hG : Cl p.tables e below K0) (X : Stand p l e R s m args below meth c T locs cells slots) (hx : p.tables.exec = Jvm.exec) (hZ : Z.Warmed39 s.vm) (eT : T.heap = h) (A : Arr Z h a cl .byte) (hj : ¬ (j < 0 ∨ cl.slots.size ≤ j.toNatClampNeg)) (hv : cl.slots[j.toNatClampNeg]? = some v) (hg : m = m) (hs : Ks = .int j :: .ref a :: rest) (hd : decode c.code pc = .ok (.baload, 1))
    (k : K0 (T.setTop (mkF m (pc + 1) (Ls) (v :: rest)))) : K0 (T.setTop (mkF m pc Ls Ks)) :=
  hG _ _ (X.baloadBytes (g := mkF m pc Ls Ks) hx (by rw [eT]; exact A.1) (State.isArrayOf_alike hZ.alike A.2.1) A.2.2 hj hv hg hs hd) k
theorem g_aaload {a : Addr} {cl : Cell} {j : Int32} {v : Value} {ty : FieldType} (hG : Cl p.tables e below K0) (X : Stand p l e R s m args below meth c T locs cells slots) (hx : p.tables.exec = Jvm.exec) (hZ : Z.Warmed39 s.vm) (eT : T.heap = h) (A : Arr Z h a cl ty) (hty : ty.isReference = true) (hj : ¬ (j < 0 ∨ cl.slots.size ≤ j.toNatClampNeg)) (hv : cl.slots[j.toNatClampNeg]? = some v) (hg : m = m) (hs : Ks = .int j :: .ref a :: rest) (hd : decode c.code pc = .ok (.aaload, 1))
    (k : K0 (T.setTop (mkF m (pc + 1) (Ls) (v :: rest)))) : K0 (T.setTop (mkF m pc Ls Ks)) :=
  hG _ _ (X.aaload (g := mkF m pc Ls Ks) hx (by rw [eT]; exact A.1) (State.isArrayOf_alike hZ.alike A.2.1) hty A.2.2 hj hv hg hs hd) k
theorem gLen {a : Addr} {cl : Cell} {ty : FieldType} {z : Int32} (hG : Cl p.tables e below K0) (X : Stand p l e R s m args below meth c T locs cells slots) (hx : p.tables.exec = Jvm.exec) (hZ : Z.Warmed39 s.vm) (eT : T.heap = h) (A : Arr Z h a cl ty) (S : cl.slots.size = z.toNatClampNeg) (N : ¬ z < 0) (hg : m = m) (hs : Ks = .ref a :: rest) (hd : decode c.code pc = .ok (.arraylength, 1))
    (k : K0 (T.setTop (mkF m (pc + 1) (Ls) (.int z :: rest)))) : K0 (T.setTop (mkF m pc Ls Ks)) := by
  refine hG _ _ (X.arraylength (g := mkF m pc Ls Ks) hx (by rw [eT]; exact A.1) (State.isArrayOf_alike hZ.alike A.2.1) hg hs hd) ?_
  rw [len_of S N]
  exact k
theorem gStaticN {own : String} {index : Nat} {y : MethodName} {bytes : ByteArray} {maxL : Nat} {ret : Option FieldType} {W mc ms : Nat} {as' : Array Value} {Q : Option Value → Heap → List Loc → Prop} {argsL : List Value} (hG : Cl p.tables e below K0) (X : Stand p l e R s m args below meth c T locs cells slots) (hx : p.tables.exec = Jvm.exec) (hZ : Z.Warmed39 s.vm) (hown : s.vm.findClass own = some m.cls) (hlink : (Cond.methodLink own index y).before args s = true) (hstat : (Cond.static y).before args s = true) (hinit : (Cond.initialized y.cls).before args s = true) (hcode : (Cond.code y bytes maxL ret).before args s = true) (hy : y.cls ≠ "java/lang/invoke/MethodHandle" ∧ y.cls ≠ "java/lang/invoke/VarHandle") (hK : Back l R p e below s args y 3 W (fun A a => a = as' ∧ A.U.heap = h ∧ A.cells + mc ≤ R.cells ∧ A.slots + ms ≤ R.slots) (fun A _ v B => ∃ L, Q v B.U.heap L ∧ B.locs = A.locs ++ L ∧ B.cells = A.cells + mc ∧ B.slots = A.slots + ms)) (hg : m = m) (hsize : Ls.size = c.maxLocals) (hlen : ∀ sig, parseMethodDescriptor y.desc = some sig → argsL.length = sig.parameters.length) (hstack : Ks = argsL.reverse ++ rest) (hW : 2 * 0 + (rest.map fun v => v.category).sum ≤ W) (hdg : decode c.code pc = .ok (.invokestatic index, 3)) (has : argsL.toArray = as') (eT : T.heap = h) (hc : cells + mc ≤ R.cells) (hsl : slots + ms ≤ R.slots)
    (k : ∀ (v : Option Value) (T' : State) (L : List Loc), Q v T'.heap L → Stand p l e R s m args below meth c T' (locs ++ L) (cells + mc) (slots + ms) → K0 (T'.setTop (mkF m (pc + 3) (Ls) (v.toList ++ rest)))) : K0 (T.setTop (mkF m pc Ls Ks)) := by
  obtain ⟨v, vm₁, ⟨T', L', k', n'⟩, -, X', ⟨Lc, hQ, h1, h2, h3⟩, st⟩ := Jvm.LawKit.callS (g := mkF m pc Ls Ks) X hx hown hlink hstat hinit hcode hy hK hg hsize hlen hstack hW hdg (fun vm₁ hvm => ⟨has, eT, hc, hsl⟩)
  dsimp only [Pt.U, Pt.locs, Pt.cells, Pt.slots] at X' hQ h1 h2 h3 st
  subst h1 h2 h3
  exact hG _ _ st (k v T' Lc hQ X')
theorem gStaticS {own : String} {index : Nat} {y : MethodName} {bytes : ByteArray} {maxL : Nat} {ret : Option FieldType} {W mc ms : Nat} {as' : Array Value} {Q : Option Value → Heap → List Loc → Prop} {argsL : List Value} {vm0 : Vm} {k0 : Nat} (hG : Cl p.tables e below K0) (X : Stand p l e R (s.setVm vm0) m args below meth c T locs cells slots) (hx : p.tables.exec = Jvm.exec) (hZ : Z.Warmed39 (s.setVm vm0).vm) (hS : s.Since vm0 k0) (hk : k0 ≤ h.size) (hown : (s.setVm vm0).vm.findClass own = some m.cls) (hlink : (Cond.methodLink own index y).before args (s.setVm vm0) = true) (hstat : (Cond.static y).before args (s.setVm vm0) = true) (hinit : (Cond.initialized y.cls).before args (s.setVm vm0) = true) (hcode : (Cond.code y bytes maxL ret).before args (s.setVm vm0) = true) (hy : y.cls ≠ "java/lang/invoke/MethodHandle" ∧ y.cls ≠ "java/lang/invoke/VarHandle") (hK : BackS l R p e below (s.setVm vm0) args y 3 W (fun A a => a = as' ∧ A.U.heap = h ∧ A.cells + mc ≤ R.cells ∧ A.slots + ms ≤ R.slots) (fun A _ v B => ∃ L, Q v B.U.heap L ∧ B.locs = A.locs ++ L ∧ B.cells = A.cells + mc ∧ B.slots = A.slots + ms)) (hg : m = m) (hsize : Ls.size = c.maxLocals) (hlen : ∀ sig, parseMethodDescriptor y.desc = some sig → argsL.length = sig.parameters.length) (hstack : Ks = argsL.reverse ++ rest) (hW : 2 * 0 + (rest.map fun v => v.category).sum ≤ W) (hdg : decode c.code pc = .ok (.invokestatic index, 3)) (has : argsL.toArray = as') (eT : T.heap = h) (hc : cells + mc ≤ R.cells) (hsl : slots + ms ≤ R.slots)
    (k : ∀ (v : Option Value) (T' : State) (L : List Loc), Q v T'.heap L → Stand p l e R (s.setVm T'.vm) m args below meth c T' (locs ++ L) (cells + mc) (slots + ms) → s.Since T'.vm T'.heap.size → Z.Warmed39 (s.setVm T'.vm).vm → (s.setVm T'.vm).vm.findClass own = some m.cls → T'.heap.size ≤ T'.heap.size → K0 (T'.setTop (mkF m (pc + 3) (Ls) (v.toList ++ rest)))) : K0 (T.setTop (mkF m pc Ls Ks)) := by
  obtain ⟨v, vm₁, ⟨T', L', k', n'⟩, -, X', hS', gr, ⟨Lc, hQ, h1, h2, h3⟩, st⟩ := callSS (g := mkF m pc Ls Ks) X hx hown hlink hstat hinit hcode hy hK hg hsize hlen hstack hW hdg (fun vm₁ hvm => ⟨has, eT, hc, hsl⟩)
  dsimp only [Pt.U, Pt.locs, Pt.cells, Pt.slots] at X' hQ h1 h2 h3 st hS' gr
  subst h1 h2 h3
  obtain ⟨X2, hS2, hZ2, hown2⟩ := rebS hS (Nat.le_trans hk (Nat.le_of_eq (congrArg Array.size eT.symm))) X' hS' gr hZ hown
  exact hG _ _ (fun _ q => st.trans q) (k v T' Lc hQ X2 hS2 hZ2 hown2 (Nat.le_refl _))
theorem gStaticJ {own : String} {index : Nat} {y : MethodName} {bytes : ByteArray} {maxL : Nat} {ret : Option FieldType} {W mc ms : Nat} {as' : Array Value} {Q : Option Value → Heap → Vm → List Loc → Prop} {argsL : List Value} {vm0 : Vm} {k0 : Nat} {Φ : Vm → Prop} (hG : Cl p.tables e below K0) (X : Stand p l e R (s.setVm vm0) m args below meth c T locs cells slots) (hx : p.tables.exec = Jvm.exec) (hZ : Z.Warmed39 (s.setVm vm0).vm) (hS : s.Since vm0 k0) (hk : k0 ≤ h.size) (hown : (s.setVm vm0).vm.findClass own = some m.cls) (hlink : (Cond.methodLink own index y).before args (s.setVm vm0) = true) (hstat : (Cond.static y).before args (s.setVm vm0) = true) (hinit : (Cond.initialized y.cls).before args (s.setVm vm0) = true) (hcode : (Cond.code y bytes maxL ret).before args (s.setVm vm0) = true) (hy : y.cls ≠ "java/lang/invoke/MethodHandle" ∧ y.cls ≠ "java/lang/invoke/VarHandle") (hK : BackS l R p e below (s.setVm vm0) args y 3 W (fun A a => a = as' ∧ A.U.heap = h ∧ Φ A.U.vm ∧ A.cells + mc ≤ R.cells ∧ A.slots + ms ≤ R.slots) (fun A _ v B => ∃ L, Q v B.U.heap B.U.vm L ∧ B.locs = A.locs ++ L ∧ B.cells = A.cells + mc ∧ B.slots = A.slots + ms)) (hg : m = m) (hsize : Ls.size = c.maxLocals) (hlen : ∀ sig, parseMethodDescriptor y.desc = some sig → argsL.length = sig.parameters.length) (hstack : Ks = argsL.reverse ++ rest) (hW : 2 * 0 + (rest.map fun v => v.category).sum ≤ W) (hdg : decode c.code pc = .ok (.invokestatic index, 3)) (has : argsL.toArray = as') (eT : T.heap = h) (hΦ : ∀ vm₁, (s.setVm vm0).WarmedH vm₁ → Φ vm₁) (hc : cells + mc ≤ R.cells) (hsl : slots + ms ≤ R.slots)
    (k : ∀ (v : Option Value) (T' : State) (L : List Loc), Q v T'.heap T'.vm L → Stand p l e R (s.setVm T'.vm) m args below meth c T' (locs ++ L) (cells + mc) (slots + ms) → s.Since T'.vm T'.heap.size → Z.Warmed39 (s.setVm T'.vm).vm → (s.setVm T'.vm).vm.findClass own = some m.cls → T'.heap.size ≤ T'.heap.size → K0 (T'.setTop (mkF m (pc + 3) (Ls) (v.toList ++ rest)))) : K0 (T.setTop (mkF m pc Ls Ks)) := by
  obtain ⟨v, vm₁, ⟨T', L', k', n'⟩, -, X', hS', gr, ⟨Lc, hQ, h1, h2, h3⟩, st⟩ := callSS (g := mkF m pc Ls Ks) X hx hown hlink hstat hinit hcode hy hK hg hsize hlen hstack hW hdg (fun vm₁ hvm => ⟨has, eT, hΦ vm₁ hvm, hc, hsl⟩)
  dsimp only [Pt.U, Pt.locs, Pt.cells, Pt.slots] at X' hQ h1 h2 h3 st hS' gr
  subst h1 h2 h3
  obtain ⟨X2, hS2, hZ2, hown2⟩ := rebS hS (Nat.le_trans hk (Nat.le_of_eq (congrArg Array.size eT.symm))) X' hS' gr hZ hown
  exact hG _ _ (fun _ q => st.trans q) (k v T' Lc hQ X2 hS2 hZ2 hown2 (Nat.le_refl _))
theorem gSpecialN {own : String} {index : Nat} {y : MethodName} {bytes : ByteArray} {maxL : Nat} {b : Addr} {W mc ms : Nat} {as' : Array Value} {Q : Option Value → Heap → List Loc → Prop} {argsL : List Value} (hG : Cl p.tables e below K0) (X : Stand p l e R s m args below meth c T locs cells slots) (hx : p.tables.exec = Jvm.exec) (hZ : Z.Warmed39 s.vm) (hown : s.vm.findClass own = some m.cls) (hy1 : y.name = "<init>") (hlink : (Cond.methodLink own index y).before args s = true) (hinst : (Cond.instanceMethod y).before args s = true) (hcode : (Cond.code y bytes maxL none).before args s = true) (hy : y.cls ≠ "java/lang/invoke/MethodHandle" ∧ y.cls ≠ "java/lang/invoke/VarHandle") (hK : Back l R p e below s args y 3 W (fun A a => a = as' ∧ A.U.heap = h ∧ A.cells + mc ≤ R.cells ∧ A.slots + ms ≤ R.slots) (fun A _ v B => ∃ L, Q v B.U.heap L ∧ B.locs = A.locs ++ L ∧ B.cells = A.cells + mc ∧ B.slots = A.slots + ms)) (hg : m = m) (hsize : Ls.size = c.maxLocals) (hlen : ∀ sig, parseMethodDescriptor y.desc = some sig → argsL.length = sig.parameters.length) (hstack : Ks = argsL.reverse ++ .ref b :: rest) (hW : 2 * 0 + (rest.map fun v => v.category).sum ≤ W) (hdg : decode c.code pc = .ok (.invokespecial index, 3)) (has : (.ref b :: argsL).toArray = as') (eT : T.heap = h) (hc : cells + mc ≤ R.cells) (hsl : slots + ms ≤ R.slots)
    (k : ∀ (v : Option Value) (T' : State) (L : List Loc), Q v T'.heap L → Stand p l e R s m args below meth c T' (locs ++ L) (cells + mc) (slots + ms) → K0 (T'.setTop (mkF m (pc + 3) (Ls) (v.toList ++ rest)))) : K0 (T.setTop (mkF m pc Ls Ks)) := by
  obtain ⟨v, vm₁, ⟨T', L', k', n'⟩, -, X', ⟨Lc, hQ, h1, h2, h3⟩, st⟩ := X.specialBack (g := mkF m pc Ls Ks) hx hy1 hown hlink hinst hcode hy hK hg hsize (Steps.refl _) hlen hstack hW hdg (fun vm₁ hvm => ⟨has, eT, hc, hsl⟩)
  dsimp only [Pt.U, Pt.locs, Pt.cells, Pt.slots] at X' hQ h1 h2 h3 st
  subst h1 h2 h3
  exact hG _ _ (fun _ q => st.trans q) (k v T' Lc hQ X')
theorem gSpecialS {own : String} {index : Nat} {y : MethodName} {bytes : ByteArray} {maxL : Nat} {b : Addr} {W mc ms : Nat} {as' : Array Value} {Q : Option Value → Heap → List Loc → Prop} {argsL : List Value} {vm0 : Vm} {k0 : Nat} (hG : Cl p.tables e below K0) (X : Stand p l e R (s.setVm vm0) m args below meth c T locs cells slots) (hx : p.tables.exec = Jvm.exec) (hZ : Z.Warmed39 (s.setVm vm0).vm) (hS : s.Since vm0 k0) (hk : k0 ≤ h.size) (hown : (s.setVm vm0).vm.findClass own = some m.cls) (hy1 : y.name = "<init>") (hlink : (Cond.methodLink own index y).before args (s.setVm vm0) = true) (hinst : (Cond.instanceMethod y).before args (s.setVm vm0) = true) (hcode : (Cond.code y bytes maxL none).before args (s.setVm vm0) = true) (hy : y.cls ≠ "java/lang/invoke/MethodHandle" ∧ y.cls ≠ "java/lang/invoke/VarHandle") (hK : BackS l R p e below (s.setVm vm0) args y 3 W (fun A a => a = as' ∧ A.U.heap = h ∧ A.cells + mc ≤ R.cells ∧ A.slots + ms ≤ R.slots) (fun A _ v B => ∃ L, Q v B.U.heap L ∧ B.locs = A.locs ++ L ∧ B.cells = A.cells + mc ∧ B.slots = A.slots + ms)) (hg : m = m) (hsize : Ls.size = c.maxLocals) (hlen : ∀ sig, parseMethodDescriptor y.desc = some sig → argsL.length = sig.parameters.length) (hstack : Ks = argsL.reverse ++ .ref b :: rest) (hW : 2 * 0 + (rest.map fun v => v.category).sum ≤ W) (hdg : decode c.code pc = .ok (.invokespecial index, 3)) (has : (.ref b :: argsL).toArray = as') (eT : T.heap = h) (hc : cells + mc ≤ R.cells) (hsl : slots + ms ≤ R.slots)
    (k : ∀ (v : Option Value) (T' : State) (L : List Loc), Q v T'.heap L → Stand p l e R (s.setVm T'.vm) m args below meth c T' (locs ++ L) (cells + mc) (slots + ms) → s.Since T'.vm T'.heap.size → Z.Warmed39 (s.setVm T'.vm).vm → (s.setVm T'.vm).vm.findClass own = some m.cls → T'.heap.size ≤ T'.heap.size → K0 (T'.setTop (mkF m (pc + 3) (Ls) (v.toList ++ rest)))) : K0 (T.setTop (mkF m pc Ls Ks)) := by
  obtain ⟨v, vm₁, ⟨T', L', k', n'⟩, -, X', hS', gr, ⟨Lc, hQ, h1, h2, h3⟩, st⟩ := X.specialBackS (g := mkF m pc Ls Ks) hx hy1 hown hlink hinst hcode hy hK hg hsize (Steps.refl _) hlen hstack hW hdg (fun vm₁ hvm => ⟨has, eT, hc, hsl⟩)
  dsimp only [Pt.U, Pt.locs, Pt.cells, Pt.slots] at X' hQ h1 h2 h3 st hS' gr
  subst h1 h2 h3
  obtain ⟨X2, hS2, hZ2, hown2⟩ := rebS hS (Nat.le_trans hk (Nat.le_of_eq (congrArg Array.size eT.symm))) X' hS' gr hZ hown
  exact hG _ _ (fun _ q => st.trans q) (k v T' Lc hQ X2 hS2 hZ2 hown2 (Nat.le_refl _))
theorem gSpecialJ {own : String} {index : Nat} {y : MethodName} {bytes : ByteArray} {maxL : Nat} {b : Addr} {W mc ms : Nat} {as' : Array Value} {Q : Option Value → Heap → Vm → List Loc → Prop} {argsL : List Value} {vm0 : Vm} {k0 : Nat} {Φ : Vm → Prop} (hG : Cl p.tables e below K0) (X : Stand p l e R (s.setVm vm0) m args below meth c T locs cells slots) (hx : p.tables.exec = Jvm.exec) (hZ : Z.Warmed39 (s.setVm vm0).vm) (hS : s.Since vm0 k0) (hk : k0 ≤ h.size) (hown : (s.setVm vm0).vm.findClass own = some m.cls) (hy1 : y.name = "<init>") (hlink : (Cond.methodLink own index y).before args (s.setVm vm0) = true) (hinst : (Cond.instanceMethod y).before args (s.setVm vm0) = true) (hcode : (Cond.code y bytes maxL none).before args (s.setVm vm0) = true) (hy : y.cls ≠ "java/lang/invoke/MethodHandle" ∧ y.cls ≠ "java/lang/invoke/VarHandle") (hK : BackS l R p e below (s.setVm vm0) args y 3 W (fun A a => a = as' ∧ A.U.heap = h ∧ Φ A.U.vm ∧ A.cells + mc ≤ R.cells ∧ A.slots + ms ≤ R.slots) (fun A _ v B => ∃ L, Q v B.U.heap B.U.vm L ∧ B.locs = A.locs ++ L ∧ B.cells = A.cells + mc ∧ B.slots = A.slots + ms)) (hg : m = m) (hsize : Ls.size = c.maxLocals) (hlen : ∀ sig, parseMethodDescriptor y.desc = some sig → argsL.length = sig.parameters.length) (hstack : Ks = argsL.reverse ++ .ref b :: rest) (hW : 2 * 0 + (rest.map fun v => v.category).sum ≤ W) (hdg : decode c.code pc = .ok (.invokespecial index, 3)) (has : (.ref b :: argsL).toArray = as') (eT : T.heap = h) (hΦ : ∀ vm₁, (s.setVm vm0).WarmedH vm₁ → Φ vm₁) (hc : cells + mc ≤ R.cells) (hsl : slots + ms ≤ R.slots)
    (k : ∀ (v : Option Value) (T' : State) (L : List Loc), Q v T'.heap T'.vm L → Stand p l e R (s.setVm T'.vm) m args below meth c T' (locs ++ L) (cells + mc) (slots + ms) → s.Since T'.vm T'.heap.size → Z.Warmed39 (s.setVm T'.vm).vm → (s.setVm T'.vm).vm.findClass own = some m.cls → T'.heap.size ≤ T'.heap.size → K0 (T'.setTop (mkF m (pc + 3) (Ls) (v.toList ++ rest)))) : K0 (T.setTop (mkF m pc Ls Ks)) := by
  obtain ⟨v, vm₁, ⟨T', L', k', n'⟩, -, X', hS', gr, ⟨Lc, hQ, h1, h2, h3⟩, st⟩ := X.specialBackS (g := mkF m pc Ls Ks) hx hy1 hown hlink hinst hcode hy hK hg hsize (Steps.refl _) hlen hstack hW hdg (fun vm₁ hvm => ⟨has, eT, hΦ vm₁ hvm, hc, hsl⟩)
  dsimp only [Pt.U, Pt.locs, Pt.cells, Pt.slots] at X' hQ h1 h2 h3 st hS' gr
  subst h1 h2 h3
  obtain ⟨X2, hS2, hZ2, hown2⟩ := rebS hS (Nat.le_trans hk (Nat.le_of_eq (congrArg Array.size eT.symm))) X' hS' gr hZ hown
  exact hG _ _ (fun _ q => st.trans q) (k v T' Lc hQ X2 hS2 hZ2 hown2 (Nat.le_refl _))
theorem gVirtualN {own C : String} {index : Nat} {y z : MethodName} {b : Addr} {W mc ms : Nat} {as' : Array Value} {Q : Option Value → Heap → List Loc → Prop} {argsL : List Value} (hG : Cl p.tables e below K0) (X : Stand p l e R s m args below meth c T locs cells slots) (hx : p.tables.exec = Jvm.exec) (hZ : Z.Warmed39 s.vm) (hown : s.vm.findClass own = some m.cls) (hlink : (Cond.methodLink own index y).before args s = true) (hdecl : (Cond.declares y).before args s = true) (hnf : NotFace s y) (hsel : (Cond.selects C y z).before args s = true) (hinst : (Cond.instanceMethod z).before args s = true) (hy : y.cls ≠ "java/lang/invoke/MethodHandle" ∧ y.cls ≠ "java/lang/invoke/VarHandle") (E : Exa Z h b C) (hK : Back l R p e below s args z 3 W (fun A a => a = as' ∧ A.U.heap = h ∧ A.cells + mc ≤ R.cells ∧ A.slots + ms ≤ R.slots) (fun A _ v B => ∃ L, Q v B.U.heap L ∧ B.locs = A.locs ++ L ∧ B.cells = A.cells + mc ∧ B.slots = A.slots + ms)) (hg : m = m) (hsize : Ls.size = c.maxLocals) (hlen : ∀ sig, parseMethodDescriptor y.desc = some sig → argsL.length = sig.parameters.length) (hstack : Ks = argsL.reverse ++ .ref b :: rest) (hW : 2 * 0 + (rest.map fun v => v.category).sum ≤ W) (hdg : decode c.code pc = .ok (.invokevirtual index, 3)) (has : (.ref b :: argsL).toArray = as') (eT : T.heap = h) (hc : cells + mc ≤ R.cells) (hsl : slots + ms ≤ R.slots)
    (k : ∀ (v : Option Value) (T' : State) (L : List Loc), Q v T'.heap L → Stand p l e R s m args below meth c T' (locs ++ L) (cells + mc) (slots + ms) → K0 (T'.setTop (mkF m (pc + 3) (Ls) (v.toList ++ rest)))) : K0 (T.setTop (mkF m pc Ls Ks)) := by
  obtain ⟨cq, kq, q1, q2, q3⟩ := isOf hZ eT E
  obtain ⟨v, vm₁, ⟨T', L', k', n'⟩, -, X', ⟨Lc, hQ, h1, h2, h3⟩, st⟩ := X.virtualBack (g := mkF m pc Ls Ks) hx hown hlink hdecl hnf hsel hinst hy hK q1 q3 hg hsize (Steps.refl _) hlen hstack hW hdg (fun vm₁ hvm => ⟨has, eT, hc, hsl⟩)
  dsimp only [Pt.U, Pt.locs, Pt.cells, Pt.slots] at X' hQ h1 h2 h3 st
  subst h1 h2 h3
  exact hG _ _ (fun _ q => st.trans q) (k v T' Lc hQ X')
theorem gVirtualS {own C : String} {index : Nat} {y z : MethodName} {b : Addr} {W mc ms : Nat} {as' : Array Value} {Q : Option Value → Heap → List Loc → Prop} {argsL : List Value} {vm0 : Vm} {k0 : Nat} (hG : Cl p.tables e below K0) (X : Stand p l e R (s.setVm vm0) m args below meth c T locs cells slots) (hx : p.tables.exec = Jvm.exec) (hZ : Z.Warmed39 (s.setVm vm0).vm) (hS : s.Since vm0 k0) (hk : k0 ≤ h.size) (hown : (s.setVm vm0).vm.findClass own = some m.cls) (hlink : (Cond.methodLink own index y).before args (s.setVm vm0) = true) (hdecl : (Cond.declares y).before args (s.setVm vm0) = true) (hnf : NotFace (s.setVm vm0) y) (hsel : (Cond.selects C y z).before args (s.setVm vm0) = true) (hinst : (Cond.instanceMethod z).before args (s.setVm vm0) = true) (hy : y.cls ≠ "java/lang/invoke/MethodHandle" ∧ y.cls ≠ "java/lang/invoke/VarHandle") (E : Exa Z h b C) (hK : BackS l R p e below (s.setVm vm0) args z 3 W (fun A a => a = as' ∧ A.U.heap = h ∧ A.cells + mc ≤ R.cells ∧ A.slots + ms ≤ R.slots) (fun A _ v B => ∃ L, Q v B.U.heap L ∧ B.locs = A.locs ++ L ∧ B.cells = A.cells + mc ∧ B.slots = A.slots + ms)) (hg : m = m) (hsize : Ls.size = c.maxLocals) (hlen : ∀ sig, parseMethodDescriptor y.desc = some sig → argsL.length = sig.parameters.length) (hstack : Ks = argsL.reverse ++ .ref b :: rest) (hW : 2 * 0 + (rest.map fun v => v.category).sum ≤ W) (hdg : decode c.code pc = .ok (.invokevirtual index, 3)) (has : (.ref b :: argsL).toArray = as') (eT : T.heap = h) (hc : cells + mc ≤ R.cells) (hsl : slots + ms ≤ R.slots)
    (k : ∀ (v : Option Value) (T' : State) (L : List Loc), Q v T'.heap L → Stand p l e R (s.setVm T'.vm) m args below meth c T' (locs ++ L) (cells + mc) (slots + ms) → s.Since T'.vm T'.heap.size → Z.Warmed39 (s.setVm T'.vm).vm → (s.setVm T'.vm).vm.findClass own = some m.cls → T'.heap.size ≤ T'.heap.size → K0 (T'.setTop (mkF m (pc + 3) (Ls) (v.toList ++ rest)))) : K0 (T.setTop (mkF m pc Ls Ks)) := by
  obtain ⟨cq, kq, q1, q2, q3⟩ := isOf hZ eT E
  obtain ⟨v, vm₁, ⟨T', L', k', n'⟩, -, X', hS', gr, ⟨Lc, hQ, h1, h2, h3⟩, st⟩ := X.virtualBackS (g := mkF m pc Ls Ks) hx hown hlink hdecl hnf hsel hinst hy hK q1 q3 hg hsize (Steps.refl _) hlen hstack hW hdg (fun vm₁ hvm => ⟨has, eT, hc, hsl⟩)
  dsimp only [Pt.U, Pt.locs, Pt.cells, Pt.slots] at X' hQ h1 h2 h3 st hS' gr
  subst h1 h2 h3
  obtain ⟨X2, hS2, hZ2, hown2⟩ := rebS hS (Nat.le_trans hk (Nat.le_of_eq (congrArg Array.size eT.symm))) X' hS' gr hZ hown
  exact hG _ _ (fun _ q => st.trans q) (k v T' Lc hQ X2 hS2 hZ2 hown2 (Nat.le_refl _))
theorem gVirtualJ {own C : String} {index : Nat} {y z : MethodName} {b : Addr} {W mc ms : Nat} {as' : Array Value} {Q : Option Value → Heap → Vm → List Loc → Prop} {argsL : List Value} {vm0 : Vm} {k0 : Nat} {Φ : Vm → Prop} (hG : Cl p.tables e below K0) (X : Stand p l e R (s.setVm vm0) m args below meth c T locs cells slots) (hx : p.tables.exec = Jvm.exec) (hZ : Z.Warmed39 (s.setVm vm0).vm) (hS : s.Since vm0 k0) (hk : k0 ≤ h.size) (hown : (s.setVm vm0).vm.findClass own = some m.cls) (hlink : (Cond.methodLink own index y).before args (s.setVm vm0) = true) (hdecl : (Cond.declares y).before args (s.setVm vm0) = true) (hnf : NotFace (s.setVm vm0) y) (hsel : (Cond.selects C y z).before args (s.setVm vm0) = true) (hinst : (Cond.instanceMethod z).before args (s.setVm vm0) = true) (hy : y.cls ≠ "java/lang/invoke/MethodHandle" ∧ y.cls ≠ "java/lang/invoke/VarHandle") (E : Exa Z h b C) (hK : BackS l R p e below (s.setVm vm0) args z 3 W (fun A a => a = as' ∧ A.U.heap = h ∧ Φ A.U.vm ∧ A.cells + mc ≤ R.cells ∧ A.slots + ms ≤ R.slots) (fun A _ v B => ∃ L, Q v B.U.heap B.U.vm L ∧ B.locs = A.locs ++ L ∧ B.cells = A.cells + mc ∧ B.slots = A.slots + ms)) (hg : m = m) (hsize : Ls.size = c.maxLocals) (hlen : ∀ sig, parseMethodDescriptor y.desc = some sig → argsL.length = sig.parameters.length) (hstack : Ks = argsL.reverse ++ .ref b :: rest) (hW : 2 * 0 + (rest.map fun v => v.category).sum ≤ W) (hdg : decode c.code pc = .ok (.invokevirtual index, 3)) (has : (.ref b :: argsL).toArray = as') (eT : T.heap = h) (hΦ : ∀ vm₁, (s.setVm vm0).WarmedH vm₁ → Φ vm₁) (hc : cells + mc ≤ R.cells) (hsl : slots + ms ≤ R.slots)
    (k : ∀ (v : Option Value) (T' : State) (L : List Loc), Q v T'.heap T'.vm L → Stand p l e R (s.setVm T'.vm) m args below meth c T' (locs ++ L) (cells + mc) (slots + ms) → s.Since T'.vm T'.heap.size → Z.Warmed39 (s.setVm T'.vm).vm → (s.setVm T'.vm).vm.findClass own = some m.cls → T'.heap.size ≤ T'.heap.size → K0 (T'.setTop (mkF m (pc + 3) (Ls) (v.toList ++ rest)))) : K0 (T.setTop (mkF m pc Ls Ks)) := by
  obtain ⟨cq, kq, q1, q2, q3⟩ := isOf hZ eT E
  obtain ⟨v, vm₁, ⟨T', L', k', n'⟩, -, X', hS', gr, ⟨Lc, hQ, h1, h2, h3⟩, st⟩ := X.virtualBackS (g := mkF m pc Ls Ks) hx hown hlink hdecl hnf hsel hinst hy hK q1 q3 hg hsize (Steps.refl _) hlen hstack hW hdg (fun vm₁ hvm => ⟨has, eT, hΦ vm₁ hvm, hc, hsl⟩)
  dsimp only [Pt.U, Pt.locs, Pt.cells, Pt.slots] at X' hQ h1 h2 h3 st hS' gr
  subst h1 h2 h3
  obtain ⟨X2, hS2, hZ2, hown2⟩ := rebS hS (Nat.le_trans hk (Nat.le_of_eq (congrArg Array.size eT.symm))) X' hS' gr hZ hown
  exact hG _ _ (fun _ q => st.trans q) (k v T' Lc hQ X2 hS2 hZ2 hown2 (Nat.le_refl _))
theorem gVirtualUpN {own C owner : String} {index : Nat} {x y : MethodName} {b : Addr} {W mc ms : Nat} {as' : Array Value} {Q : Option Value → Heap → List Loc → Prop} {argsL : List Value} (hG : Cl p.tables e below K0) (X : Stand p l e R s m args below meth c T locs cells slots) (hx : p.tables.exec = Jvm.exec) (hZ : Z.Warmed39 s.vm) (hown : s.vm.findClass own = some m.cls) (hlink : (Cond.methodLink own index x).before args s = true) (hsame : (Cond.sameMethod x.cls owner x.name x.desc).before args s = true) (hdecl : (Cond.declares ⟨owner, x.name, x.desc⟩).before args s = true) (howner : owner ≠ "java/lang/invoke/MethodHandle" ∧ owner ≠ "java/lang/invoke/VarHandle") (hsel : (Cond.selects C x y).before args s = true) (hinst : (Cond.instanceMethod y).before args s = true) (E : Exa Z h b C) (hK : Back l R p e below s args y 3 W (fun A a => a = as' ∧ A.U.heap = h ∧ A.cells + mc ≤ R.cells ∧ A.slots + ms ≤ R.slots) (fun A _ v B => ∃ L, Q v B.U.heap L ∧ B.locs = A.locs ++ L ∧ B.cells = A.cells + mc ∧ B.slots = A.slots + ms)) (hg : m = m) (hsize : Ls.size = c.maxLocals) (hlen : ∀ sig, parseMethodDescriptor x.desc = some sig → argsL.length = sig.parameters.length) (hstack : Ks = argsL.reverse ++ .ref b :: rest) (hW : 2 * 0 + (rest.map fun v => v.category).sum ≤ W) (hdg : decode c.code pc = .ok (.invokevirtual index, 3)) (has : (.ref b :: argsL).toArray = as') (eT : T.heap = h) (hc : cells + mc ≤ R.cells) (hsl : slots + ms ≤ R.slots)
    (k : ∀ (v : Option Value) (T' : State) (L : List Loc), Q v T'.heap L → Stand p l e R s m args below meth c T' (locs ++ L) (cells + mc) (slots + ms) → K0 (T'.setTop (mkF m (pc + 3) (Ls) (v.toList ++ rest)))) : K0 (T.setTop (mkF m pc Ls Ks)) := by
  obtain ⟨cq, kq, q1, q2, q3⟩ := isOf hZ eT E
  obtain ⟨v, vm₁, ⟨T', L', k', n'⟩, -, X', ⟨Lc, hQ, h1, h2, h3⟩, st⟩ := X.virtualBackUp (g := mkF m pc Ls Ks) hx hown hlink hsame hdecl howner hsel hinst hK q1 q3 hg hsize (Steps.refl _) hlen hstack hW hdg (fun vm₁ hvm => ⟨has, eT, hc, hsl⟩)
  dsimp only [Pt.U, Pt.locs, Pt.cells, Pt.slots] at X' hQ h1 h2 h3 st
  subst h1 h2 h3
  exact hG _ _ (fun _ q => st.trans q) (k v T' Lc hQ X')
end Glue
theorem zXS_aload {tb : Tables} [Ours tb] {e : Env} {below : List Frame} {T target : State} {m : MethodId} {c : Code} {pc : Nat} {Ls : Array Slot} {Ks : List Value} (h : At T m c below) (hx : tb.exec = Jvm.exec) (hg : m = m) {k : Nat} {v : Value} (hd : decode c.code pc = .ok (.aload k, 2)) (hl : Ls[k]? = some (.val v)) (hv : v.isRef = true) (hr : Steps tb e below (T.setTop (mkF m (pc + 2) (Ls) (v :: Ks))) target) : Steps tb e below (T.setTop (mkF m pc Ls Ks)) target :=
  Jvm.Free.XS.aload (g := mkF m pc Ls Ks) h hx hg hd hl hv hr
theorem zXS_aloadN {tb : Tables} [Ours tb] {e : Env} {below : List Frame} {T target : State} {m : MethodId} {c : Code} {pc : Nat} {Ls : Array Slot} {Ks : List Value} (h : At T m c below) (hx : tb.exec = Jvm.exec) (hg : m = m) {k : Fin 4} {v : Value} (hd : decode c.code pc = .ok (.aload_n k, 1)) (hl : Ls[k.val]? = some (.val v)) (hv : v.isRef = true) (hr : Steps tb e below (T.setTop (mkF m (pc + 1) (Ls) (v :: Ks))) target) : Steps tb e below (T.setTop (mkF m pc Ls Ks)) target :=
  Jvm.Free.XS.aloadN (g := mkF m pc Ls Ks) h hx hg hd hl hv hr
theorem zXS_astore {tb : Tables} [Ours tb] {e : Env} {below : List Frame} {T target : State} {m : MethodId} {c : Code} {pc : Nat} {Ls : Array Slot} {Ks : List Value} (h : At T m c below) (hx : tb.exec = Jvm.exec) (hg : m = m) {k : Nat} {x : Value} {rest : List Value} {l' : Array Slot} (hd : decode c.code pc = .ok (.astore k, 2)) (hs : Ks = x :: rest) (hv : x.isRef = true) (hl : storeLocals Ls k x = some l') (hr : Steps tb e below (T.setTop (mkF m (pc + 2) (l') (rest))) target) : Steps tb e below (T.setTop (mkF m pc Ls Ks)) target :=
  Jvm.Free.XS.astore (g := mkF m pc Ls Ks) h hx hg hd hs hv hl hr
theorem zXS_bipush {tb : Tables} [Ours tb] {e : Env} {below : List Frame} {T target : State} {m : MethodId} {c : Code} {pc : Nat} {Ls : Array Slot} {Ks : List Value} (h : At T m c below) (hx : tb.exec = Jvm.exec) (hg : m = m) {i : Int} (hd : decode c.code pc = .ok (.bipush i, 2)) (hr : Steps tb e below (T.setTop (mkF m (pc + 2) (Ls) (.int (Int8.ofInt i).toInt32 :: Ks))) target) : Steps tb e below (T.setTop (mkF m pc Ls Ks)) target :=
  Jvm.Free.XS.bipush (g := mkF m pc Ls Ks) h hx hg hd hr
theorem zXS_dup {tb : Tables} [Ours tb] {e : Env} {below : List Frame} {T target : State} {m : MethodId} {c : Code} {pc : Nat} {Ls : Array Slot} {Ks : List Value} (h : At T m c below) (hx : tb.exec = Jvm.exec) (hg : m = m) {x : Value} {rest : List Value} (hd : decode c.code pc = .ok (.dup, 1)) (hs : Ks = x :: rest) (hc : x.category = 1) (hr : Steps tb e below (T.setTop (mkF m (pc + 1) (Ls) (x :: x :: rest))) target) : Steps tb e below (T.setTop (mkF m pc Ls Ks)) target :=
  Jvm.Free.XS.dup (g := mkF m pc Ls Ks) h hx hg hd hs hc hr
theorem zXS_goto {tb : Tables} [Ours tb] {e : Env} {below : List Frame} {T target : State} {m : MethodId} {c : Code} {pc : Nat} {Ls : Array Slot} {Ks : List Value} (h : At T m c below) (hx : tb.exec = Jvm.exec) (hg : m = m) {o : Int} {pc0 pc' : Nat} (hpc : pc = pc0) (hd : decode c.code pc = .ok (.goto o, 3)) (ho : 0 ≤ (pc0 : Int) + o) (hp : ((pc0 : Int) + o).toNat = pc') (hr : Steps tb e below (T.setTop (mkF m (pc') (Ls) (Ks))) target) : Steps tb e below (T.setTop (mkF m pc Ls Ks)) target :=
  Jvm.Free.XS.goto (g := mkF m pc Ls Ks) h hx hg hpc hd ho hp hr
theorem zXS_iadd {tb : Tables} [Ours tb] {e : Env} {below : List Frame} {T target : State} {m : MethodId} {c : Code} {pc : Nat} {Ls : Array Slot} {Ks : List Value} (h : At T m c below) (hx : tb.exec = Jvm.exec) (hg : m = m) {x y : Int32} {rest : List Value} (hd : decode c.code pc = .ok (.iadd, 1)) (hs : Ks = .int y :: .int x :: rest) (hr : Steps tb e below (T.setTop (mkF m (pc + 1) (Ls) (.int (x + y) :: rest))) target) : Steps tb e below (T.setTop (mkF m pc Ls Ks)) target :=
  Jvm.Free.XS.iadd (g := mkF m pc Ls Ks) h hx hg hd hs hr
theorem zXS_iand {tb : Tables} [Ours tb] {e : Env} {below : List Frame} {T target : State} {m : MethodId} {c : Code} {pc : Nat} {Ls : Array Slot} {Ks : List Value} (h : At T m c below) (hx : tb.exec = Jvm.exec) (hg : m = m) {x y : Int32} {rest : List Value} (hd : decode c.code pc = .ok (.iand, 1)) (hs : Ks = .int y :: .int x :: rest) (hr : Steps tb e below (T.setTop (mkF m (pc + 1) (Ls) (.int (x &&& y) :: rest))) target) : Steps tb e below (T.setTop (mkF m pc Ls Ks)) target :=
  Jvm.Free.XS.iand (g := mkF m pc Ls Ks) h hx hg hd hs hr
theorem zXS_icmpNo {tb : Tables} [Ours tb] {e : Env} {below : List Frame} {T target : State} {m : MethodId} {c : Code} {pc : Nat} {Ls : Array Slot} {Ks : List Value} (h : At T m c below) (hx : tb.exec = Jvm.exec) (hg : m = m) {cd : ClassFile.Cond} {o : Int} {x y : Int32} {rest : List Value} (hd : decode c.code pc = .ok (.if_icmp cd o, 3)) (hs : Ks = .int y :: .int x :: rest) (hc : if_icmp.holds cd x y = false) (hr : Steps tb e below (T.setTop (mkF m (pc + 3) (Ls) (rest))) target) : Steps tb e below (T.setTop (mkF m pc Ls Ks)) target :=
  Jvm.Free.XS.icmpNo (g := mkF m pc Ls Ks) h hx hg hd hs hc hr
theorem zXS_icmpYes {tb : Tables} [Ours tb] {e : Env} {below : List Frame} {T target : State} {m : MethodId} {c : Code} {pc : Nat} {Ls : Array Slot} {Ks : List Value} (h : At T m c below) (hx : tb.exec = Jvm.exec) (hg : m = m) {cd : ClassFile.Cond} {x y : Int32} {rest : List Value} {o : Int} {pc0 pc' : Nat} (hpc : pc = pc0) (hd : decode c.code pc = .ok (.if_icmp cd o, 3)) (hs : Ks = .int y :: .int x :: rest) (hc : if_icmp.holds cd x y = true) (ho : 0 ≤ (pc0 : Int) + o) (hp : ((pc0 : Int) + o).toNat = pc') (hr : Steps tb e below (T.setTop (mkF m (pc') (Ls) (rest))) target) : Steps tb e below (T.setTop (mkF m pc Ls Ks)) target :=
  Jvm.Free.XS.icmpYes (g := mkF m pc Ls Ks) h hx hg hpc hd hs hc ho hp hr
theorem zXS_iconst {tb : Tables} [Ours tb] {e : Env} {below : List Frame} {T target : State} {m : MethodId} {c : Code} {pc : Nat} {Ls : Array Slot} {Ks : List Value} (h : At T m c below) (hx : tb.exec = Jvm.exec) (hg : m = m) {i : Int} (hd : decode c.code pc = .ok (.iconst i, 1)) (hr : Steps tb e below (T.setTop (mkF m (pc + 1) (Ls) (.int (Int32.ofInt i) :: Ks))) target) : Steps tb e below (T.setTop (mkF m pc Ls Ks)) target :=
  Jvm.Free.XS.iconst (g := mkF m pc Ls Ks) h hx hg hd hr
theorem zXS_ifNo {tb : Tables} [Ours tb] {e : Env} {below : List Frame} {T target : State} {m : MethodId} {c : Code} {pc : Nat} {Ls : Array Slot} {Ks : List Value} (h : At T m c below) (hx : tb.exec = Jvm.exec) (hg : m = m) {cd : ClassFile.Cond} {o : Int} {x : Int32} {rest : List Value} (hd : decode c.code pc = .ok (.ifCond cd o, 3)) (hs : Ks = .int x :: rest) (hc : ifCond.holds cd x = false) (hr : Steps tb e below (T.setTop (mkF m (pc + 3) (Ls) (rest))) target) : Steps tb e below (T.setTop (mkF m pc Ls Ks)) target :=
  Jvm.Free.XS.ifNo (g := mkF m pc Ls Ks) h hx hg hd hs hc hr
theorem zXS_ifYes {tb : Tables} [Ours tb] {e : Env} {below : List Frame} {T target : State} {m : MethodId} {c : Code} {pc : Nat} {Ls : Array Slot} {Ks : List Value} (h : At T m c below) (hx : tb.exec = Jvm.exec) (hg : m = m) {cd : ClassFile.Cond} {x : Int32} {rest : List Value} {o : Int} {pc0 pc' : Nat} (hpc : pc = pc0) (hd : decode c.code pc = .ok (.ifCond cd o, 3)) (hs : Ks = .int x :: rest) (hc : ifCond.holds cd x = true) (ho : 0 ≤ (pc0 : Int) + o) (hp : ((pc0 : Int) + o).toNat = pc') (hr : Steps tb e below (T.setTop (mkF m (pc') (Ls) (rest))) target) : Steps tb e below (T.setTop (mkF m pc Ls Ks)) target :=
  Jvm.Free.XS.ifYes (g := mkF m pc Ls Ks) h hx hg hpc hd hs hc ho hp hr
theorem zXS_iinc {tb : Tables} [Ours tb] {e : Env} {below : List Frame} {T target : State} {m : MethodId} {c : Code} {pc : Nat} {Ls : Array Slot} {Ks : List Value} (h : At T m c below) (hx : tb.exec = Jvm.exec) (hg : m = m) {k : Nat} {cst : Int} {x : Int32} {l' : Array Slot} (hd : decode c.code pc = .ok (.iinc k cst, 3)) (hl : Ls[k]? = some (.val (.int x))) (hl' : storeLocals Ls k (.int (x + Int32.ofInt cst)) = some l') (hr : Steps tb e below (T.setTop (mkF m (pc + 3) (l') (Ks))) target) : Steps tb e below (T.setTop (mkF m pc Ls Ks)) target :=
  Jvm.Free.XS.iinc (g := mkF m pc Ls Ks) h hx hg hd hl hl' hr
theorem zXS_iload {tb : Tables} [Ours tb] {e : Env} {below : List Frame} {T target : State} {m : MethodId} {c : Code} {pc : Nat} {Ls : Array Slot} {Ks : List Value} (h : At T m c below) (hx : tb.exec = Jvm.exec) (hg : m = m) {k : Nat} {v : Int32} (hd : decode c.code pc = .ok (.iload k, 2)) (hl : Ls[k]? = some (.val (.int v))) (hr : Steps tb e below (T.setTop (mkF m (pc + 2) (Ls) (.int v :: Ks))) target) : Steps tb e below (T.setTop (mkF m pc Ls Ks)) target :=
  Jvm.Free.XS.iload (g := mkF m pc Ls Ks) h hx hg hd hl hr
theorem zXS_iloadN {tb : Tables} [Ours tb] {e : Env} {below : List Frame} {T target : State} {m : MethodId} {c : Code} {pc : Nat} {Ls : Array Slot} {Ks : List Value} (h : At T m c below) (hx : tb.exec = Jvm.exec) (hg : m = m) {k : Fin 4} {v : Int32} (hd : decode c.code pc = .ok (.iload_n k, 1)) (hl : Ls[k.val]? = some (.val (.int v))) (hr : Steps tb e below (T.setTop (mkF m (pc + 1) (Ls) (.int v :: Ks))) target) : Steps tb e below (T.setTop (mkF m pc Ls Ks)) target :=
  Jvm.Free.XS.iloadN (g := mkF m pc Ls Ks) h hx hg hd hl hr
theorem zXS_istore {tb : Tables} [Ours tb] {e : Env} {below : List Frame} {T target : State} {m : MethodId} {c : Code} {pc : Nat} {Ls : Array Slot} {Ks : List Value} (h : At T m c below) (hx : tb.exec = Jvm.exec) (hg : m = m) {k : Nat} {x : Int32} {rest : List Value} {l' : Array Slot} (hd : decode c.code pc = .ok (.istore k, 2)) (hs : Ks = .int x :: rest) (hl : storeLocals Ls k (.int x) = some l') (hr : Steps tb e below (T.setTop (mkF m (pc + 2) (l') (rest))) target) : Steps tb e below (T.setTop (mkF m pc Ls Ks)) target :=
  Jvm.Free.XS.istore (g := mkF m pc Ls Ks) h hx hg hd hs hl hr
theorem zXS_istoreN {tb : Tables} [Ours tb] {e : Env} {below : List Frame} {T target : State} {m : MethodId} {c : Code} {pc : Nat} {Ls : Array Slot} {Ks : List Value} (h : At T m c below) (hx : tb.exec = Jvm.exec) (hg : m = m) {k : Fin 4} {x : Int32} {rest : List Value} {l' : Array Slot} (hd : decode c.code pc = .ok (.istore_n k, 1)) (hs : Ks = .int x :: rest) (hl : storeLocals Ls k.val (.int x) = some l') (hr : Steps tb e below (T.setTop (mkF m (pc + 1) (l') (rest))) target) : Steps tb e below (T.setTop (mkF m pc Ls Ks)) target :=
  Jvm.Free.XS.istoreN (g := mkF m pc Ls Ks) h hx hg hd hs hl hr
theorem zXS_isub {tb : Tables} [Ours tb] {e : Env} {below : List Frame} {T target : State} {m : MethodId} {c : Code} {pc : Nat} {Ls : Array Slot} {Ks : List Value} (h : At T m c below) (hx : tb.exec = Jvm.exec) (hg : m = m) {x y : Int32} {rest : List Value} (hd : decode c.code pc = .ok (.isub, 1)) (hs : Ks = .int y :: .int x :: rest) (hr : Steps tb e below (T.setTop (mkF m (pc + 1) (Ls) (.int (x - y) :: rest))) target) : Steps tb e below (T.setTop (mkF m pc Ls Ks)) target :=
  Jvm.Free.XS.isub (g := mkF m pc Ls Ks) h hx hg hd hs hr
theorem zXS_sipush {tb : Tables} [Ours tb] {e : Env} {below : List Frame} {T target : State} {m : MethodId} {c : Code} {pc : Nat} {Ls : Array Slot} {Ks : List Value} (h : At T m c below) (hx : tb.exec = Jvm.exec) (hg : m = m) {i : Int} (hd : decode c.code pc = .ok (.sipush i, 3)) (hr : Steps tb e below (T.setTop (mkF m (pc + 3) (Ls) (.int (Int16.ofInt i).toInt32 :: Ks))) target) : Steps tb e below (T.setTop (mkF m pc Ls Ks)) target :=
  Jvm.Free.XS.sipush (g := mkF m pc Ls Ks) h hx hg hd hr
theorem zXS_tswIn {tb : Tables} [Ours tb] {e : Env} {below : List Frame} {T target : State} {m : MethodId} {c : Code} {pc : Nat} {Ls : Array Slot} {Ks : List Value} (h : At T m c below) (hx : tb.exec = Jvm.exec) (hg : m = m) {dflt low high : Int} {offs : Array Int} {len : Nat} {o : Int} {pc0 pc' : Nat} (hpc : pc = pc0) (hd : decode c.code pc = .ok (.tableswitch dflt low high offs, len)) {i : Int32} {rest : List Value} (hs : Ks = .int i :: rest) (hin : ¬ (i.toInt < low ∨ i.toInt > high)) (hoff : offs[(i.toInt - low).toNat]? = some o) (ho : 0 ≤ (pc0 : Int) + o) (hp : ((pc0 : Int) + o).toNat = pc') (hr : Steps tb e below (T.setTop (mkF m (pc') (Ls) (rest))) target) : Steps tb e below (T.setTop (mkF m pc Ls Ks)) target :=
  Jvm.Free.XS.tswIn (g := mkF m pc Ls Ks) h hx hg hpc hd hs hin hoff ho hp hr
theorem zXS_tswOut {tb : Tables} [Ours tb] {e : Env} {below : List Frame} {T target : State} {m : MethodId} {c : Code} {pc : Nat} {Ls : Array Slot} {Ks : List Value} (h : At T m c below) (hx : tb.exec = Jvm.exec) (hg : m = m) {dflt low high : Int} {offs : Array Int} {len : Nat} {pc0 pc' : Nat} (hpc : pc = pc0) (hd : decode c.code pc = .ok (.tableswitch dflt low high offs, len)) {i : Int32} {rest : List Value} (hs : Ks = .int i :: rest) (hout : i.toInt < low ∨ i.toInt > high) (ho : 0 ≤ (pc0 : Int) + dflt) (hp : ((pc0 : Int) + dflt).toNat = pc') (hr : Steps tb e below (T.setTop (mkF m (pc') (Ls) (rest))) target) : Steps tb e below (T.setTop (mkF m pc Ls Ks)) target :=
  Jvm.Free.XS.tswOut (g := mkF m pc Ls Ks) h hx hg hpc hd hs hout ho hp hr
theorem zXT_i2l {tb : Tables} [Ours tb] {e : Env} {below : List Frame} {T target : State} {m : MethodId} {c : Code} {pc : Nat} {Ls : Array Slot} {Ks : List Value} (h : At T m c below) (hx : tb.exec = Jvm.exec) (hg : m = m) {x : Int32} {rest : List Value} (hd : decode c.code pc = .ok (.i2l, 1)) (hs : Ks = .int x :: rest) (hr : Steps tb e below (T.setTop (mkF m (pc + 1) (Ls) (.long (x.toInt64) :: rest))) target) : Steps tb e below (T.setTop (mkF m pc Ls Ks)) target :=
  Jvm.Free.XT.i2l (g := mkF m pc Ls Ks) h hx hg hd hs hr
theorem zXT_iushr {tb : Tables} [Ours tb] {e : Env} {below : List Frame} {T target : State} {m : MethodId} {c : Code} {pc : Nat} {Ls : Array Slot} {Ks : List Value} (h : At T m c below) (hx : tb.exec = Jvm.exec) (hg : m = m) {x y : Int32} {rest : List Value} (hd : decode c.code pc = .ok (.iushr, 1)) (hs : Ks = .int y :: .int x :: rest) (hr : Steps tb e below (T.setTop (mkF m (pc + 1) (Ls) (.int (Jvm.Free.XT.ushr x y) :: rest))) target) : Steps tb e below (T.setTop (mkF m pc Ls Ks)) target :=
  Jvm.Free.XT.iushr (g := mkF m pc Ls Ks) h hx hg hd hs hr
theorem zXT_l2i {tb : Tables} [Ours tb] {e : Env} {below : List Frame} {T target : State} {m : MethodId} {c : Code} {pc : Nat} {Ls : Array Slot} {Ks : List Value} (h : At T m c below) (hx : tb.exec = Jvm.exec) (hg : m = m) {x : Int64} {rest : List Value} (hd : decode c.code pc = .ok (.l2i, 1)) (hs : Ks = .long x :: rest) (hr : Steps tb e below (T.setTop (mkF m (pc + 1) (Ls) (.int (x.toInt32) :: rest))) target) : Steps tb e below (T.setTop (mkF m pc Ls Ks)) target :=
  Jvm.Free.XT.l2i (g := mkF m pc Ls Ks) h hx hg hd hs hr
theorem zXT_ladd {tb : Tables} [Ours tb] {e : Env} {below : List Frame} {T target : State} {m : MethodId} {c : Code} {pc : Nat} {Ls : Array Slot} {Ks : List Value} (h : At T m c below) (hx : tb.exec = Jvm.exec) (hg : m = m) {x y : Int64} {rest : List Value} (hd : decode c.code pc = .ok (.ladd, 1)) (hs : Ks = .long y :: .long x :: rest) (hr : Steps tb e below (T.setTop (mkF m (pc + 1) (Ls) (.long (x + y) :: rest))) target) : Steps tb e below (T.setTop (mkF m pc Ls Ks)) target :=
  Jvm.Free.XT.ladd (g := mkF m pc Ls Ks) h hx hg hd hs hr
theorem zXT_land {tb : Tables} [Ours tb] {e : Env} {below : List Frame} {T target : State} {m : MethodId} {c : Code} {pc : Nat} {Ls : Array Slot} {Ks : List Value} (h : At T m c below) (hx : tb.exec = Jvm.exec) (hg : m = m) {x y : Int64} {rest : List Value} (hd : decode c.code pc = .ok (.land, 1)) (hs : Ks = .long y :: .long x :: rest) (hr : Steps tb e below (T.setTop (mkF m (pc + 1) (Ls) (.long (x &&& y) :: rest))) target) : Steps tb e below (T.setTop (mkF m pc Ls Ks)) target :=
  Jvm.Free.XT.land (g := mkF m pc Ls Ks) h hx hg hd hs hr
theorem zXT_lcmp {tb : Tables} [Ours tb] {e : Env} {below : List Frame} {T target : State} {m : MethodId} {c : Code} {pc : Nat} {Ls : Array Slot} {Ks : List Value} (h : At T m c below) (hx : tb.exec = Jvm.exec) (hg : m = m) {x y : Int64} {rest : List Value} (hd : decode c.code pc = .ok (.lcmp, 1)) (hs : Ks = .long y :: .long x :: rest) (hr : Steps tb e below (T.setTop (mkF m (pc + 1) (Ls) (.int (Jvm.Free.XT.cmpL x y) :: rest))) target) : Steps tb e below (T.setTop (mkF m pc Ls Ks)) target :=
  Jvm.Free.XT.lcmp (g := mkF m pc Ls Ks) h hx hg hd hs hr
theorem zXT_lconst {tb : Tables} [Ours tb] {e : Env} {below : List Frame} {T target : State} {m : MethodId} {c : Code} {pc : Nat} {Ls : Array Slot} {Ks : List Value} (h : At T m c below) (hx : tb.exec = Jvm.exec) (hg : m = m) {k : Fin 2} (hd : decode c.code pc = .ok (.lconst k, 1)) (hr : Steps tb e below (T.setTop (mkF m (pc + 1) (Ls) (.long (Int64.ofNat k) :: Ks))) target) : Steps tb e below (T.setTop (mkF m pc Ls Ks)) target :=
  Jvm.Free.XT.lconst (g := mkF m pc Ls Ks) h hx hg hd hr
theorem zXT_lload {tb : Tables} [Ours tb] {e : Env} {below : List Frame} {T target : State} {m : MethodId} {c : Code} {pc : Nat} {Ls : Array Slot} {Ks : List Value} (h : At T m c below) (hx : tb.exec = Jvm.exec) (hg : m = m) {k : Nat} {v : Int64} (hd : decode c.code pc = .ok (.lload k, 2)) (hl : Ls[k]? = some (.val (.long v))) (hr : Steps tb e below (T.setTop (mkF m (pc + 2) (Ls) (.long v :: Ks))) target) : Steps tb e below (T.setTop (mkF m pc Ls Ks)) target :=
  Jvm.Free.XT.lload (g := mkF m pc Ls Ks) h hx hg hd hl hr
theorem zXT_lloadN {tb : Tables} [Ours tb] {e : Env} {below : List Frame} {T target : State} {m : MethodId} {c : Code} {pc : Nat} {Ls : Array Slot} {Ks : List Value} (h : At T m c below) (hx : tb.exec = Jvm.exec) (hg : m = m) {k : Fin 4} {v : Int64} (hd : decode c.code pc = .ok (.lload_n k, 1)) (hl : Ls[k.val]? = some (.val (.long v))) (hr : Steps tb e below (T.setTop (mkF m (pc + 1) (Ls) (.long v :: Ks))) target) : Steps tb e below (T.setTop (mkF m pc Ls Ks)) target :=
  Jvm.Free.XT.lloadN (g := mkF m pc Ls Ks) h hx hg hd hl hr
theorem zXT_lmul {tb : Tables} [Ours tb] {e : Env} {below : List Frame} {T target : State} {m : MethodId} {c : Code} {pc : Nat} {Ls : Array Slot} {Ks : List Value} (h : At T m c below) (hx : tb.exec = Jvm.exec) (hg : m = m) {x y : Int64} {rest : List Value} (hd : decode c.code pc = .ok (.lmul, 1)) (hs : Ks = .long y :: .long x :: rest) (hr : Steps tb e below (T.setTop (mkF m (pc + 1) (Ls) (.long (x * y) :: rest))) target) : Steps tb e below (T.setTop (mkF m pc Ls Ks)) target :=
  Jvm.Free.XT.lmul (g := mkF m pc Ls Ks) h hx hg hd hs hr
theorem zXT_lneg {tb : Tables} [Ours tb] {e : Env} {below : List Frame} {T target : State} {m : MethodId} {c : Code} {pc : Nat} {Ls : Array Slot} {Ks : List Value} (h : At T m c below) (hx : tb.exec = Jvm.exec) (hg : m = m) {x : Int64} {rest : List Value} (hd : decode c.code pc = .ok (.lneg, 1)) (hs : Ks = .long x :: rest) (hr : Steps tb e below (T.setTop (mkF m (pc + 1) (Ls) (.long (-x) :: rest))) target) : Steps tb e below (T.setTop (mkF m pc Ls Ks)) target :=
  Jvm.Free.XT.lneg (g := mkF m pc Ls Ks) h hx hg hd hs hr
theorem zXT_lor {tb : Tables} [Ours tb] {e : Env} {below : List Frame} {T target : State} {m : MethodId} {c : Code} {pc : Nat} {Ls : Array Slot} {Ks : List Value} (h : At T m c below) (hx : tb.exec = Jvm.exec) (hg : m = m) {x y : Int64} {rest : List Value} (hd : decode c.code pc = .ok (.lor, 1)) (hs : Ks = .long y :: .long x :: rest) (hr : Steps tb e below (T.setTop (mkF m (pc + 1) (Ls) (.long (x ||| y) :: rest))) target) : Steps tb e below (T.setTop (mkF m pc Ls Ks)) target :=
  Jvm.Free.XT.lor (g := mkF m pc Ls Ks) h hx hg hd hs hr
theorem zXT_lshl {tb : Tables} [Ours tb] {e : Env} {below : List Frame} {T target : State} {m : MethodId} {c : Code} {pc : Nat} {Ls : Array Slot} {Ks : List Value} (h : At T m c below) (hx : tb.exec = Jvm.exec) (hg : m = m) {x : Int64} {y : Int32} {rest : List Value} (hd : decode c.code pc = .ok (.lshl, 1)) (hs : Ks = .int y :: .long x :: rest) (hr : Steps tb e below (T.setTop (mkF m (pc + 1) (Ls) (.long (x <<< (y.toInt64 &&& 63)) :: rest))) target) : Steps tb e below (T.setTop (mkF m pc Ls Ks)) target :=
  Jvm.Free.XT.lshl (g := mkF m pc Ls Ks) h hx hg hd hs hr
theorem zXT_lshr {tb : Tables} [Ours tb] {e : Env} {below : List Frame} {T target : State} {m : MethodId} {c : Code} {pc : Nat} {Ls : Array Slot} {Ks : List Value} (h : At T m c below) (hx : tb.exec = Jvm.exec) (hg : m = m) {x : Int64} {y : Int32} {rest : List Value} (hd : decode c.code pc = .ok (.lshr, 1)) (hs : Ks = .int y :: .long x :: rest) (hr : Steps tb e below (T.setTop (mkF m (pc + 1) (Ls) (.long (x >>> (y.toInt64 &&& 63)) :: rest))) target) : Steps tb e below (T.setTop (mkF m pc Ls Ks)) target :=
  Jvm.Free.XT.lshr (g := mkF m pc Ls Ks) h hx hg hd hs hr
theorem zXT_lstore {tb : Tables} [Ours tb] {e : Env} {below : List Frame} {T target : State} {m : MethodId} {c : Code} {pc : Nat} {Ls : Array Slot} {Ks : List Value} (h : At T m c below) (hx : tb.exec = Jvm.exec) (hg : m = m) {k : Nat} {x : Int64} {rest : List Value} {l' : Array Slot} (hd : decode c.code pc = .ok (.lstore k, 2)) (hs : Ks = .long x :: rest) (hl : storeLocals Ls k (.long x) = some l') (hr : Steps tb e below (T.setTop (mkF m (pc + 2) (l') (rest))) target) : Steps tb e below (T.setTop (mkF m pc Ls Ks)) target :=
  Jvm.Free.XT.lstore (g := mkF m pc Ls Ks) h hx hg hd hs hl hr
theorem zXT_lsub {tb : Tables} [Ours tb] {e : Env} {below : List Frame} {T target : State} {m : MethodId} {c : Code} {pc : Nat} {Ls : Array Slot} {Ks : List Value} (h : At T m c below) (hx : tb.exec = Jvm.exec) (hg : m = m) {x y : Int64} {rest : List Value} (hd : decode c.code pc = .ok (.lsub, 1)) (hs : Ks = .long y :: .long x :: rest) (hr : Steps tb e below (T.setTop (mkF m (pc + 1) (Ls) (.long (x - y) :: rest))) target) : Steps tb e below (T.setTop (mkF m pc Ls Ks)) target :=
  Jvm.Free.XT.lsub (g := mkF m pc Ls Ks) h hx hg hd hs hr
theorem zXT_lushr {tb : Tables} [Ours tb] {e : Env} {below : List Frame} {T target : State} {m : MethodId} {c : Code} {pc : Nat} {Ls : Array Slot} {Ks : List Value} (h : At T m c below) (hx : tb.exec = Jvm.exec) (hg : m = m) {x : Int64} {y : Int32} {rest : List Value} (hd : decode c.code pc = .ok (.lushr, 1)) (hs : Ks = .int y :: .long x :: rest) (hr : Steps tb e below (T.setTop (mkF m (pc + 1) (Ls) (.long (Jvm.Free.XT.ushrL x y) :: rest))) target) : Steps tb e below (T.setTop (mkF m pc Ls Ks)) target :=
  Jvm.Free.XT.lushr (g := mkF m pc Ls Ks) h hx hg hd hs hr
theorem zXT_lxor {tb : Tables} [Ours tb] {e : Env} {below : List Frame} {T target : State} {m : MethodId} {c : Code} {pc : Nat} {Ls : Array Slot} {Ks : List Value} (h : At T m c below) (hx : tb.exec = Jvm.exec) (hg : m = m) {x y : Int64} {rest : List Value} (hd : decode c.code pc = .ok (.lxor, 1)) (hs : Ks = .long y :: .long x :: rest) (hr : Steps tb e below (T.setTop (mkF m (pc + 1) (Ls) (.long (x ^^^ y) :: rest))) target) : Steps tb e below (T.setTop (mkF m pc Ls Ks)) target :=
  Jvm.Free.XT.lxor (g := mkF m pc Ls Ks) h hx hg hd hs hr
theorem zRW_iremM {p : Program} {l : Launch} {e : Env} {R : Room} {s : State} {m : MethodId} {args : Array Value} {below : List Frame} {meth : Method} {c : Code} {T : State} {locs : List Loc} {cells slots : Nat} {target : State} {pc : Nat} {Ls : Array Slot} {Ks : List Value} (X : Stand p l e R s m args below meth c T locs cells slots) (hx : p.tables.exec = Jvm.exec) (hg : m = m) {x y : Int32} {rest : List Value} (hd : decode c.code pc = .ok (.irem, 1)) (hs : Ks = .int y :: .int x :: rest) (hy : y ≠ 0) (hr : Steps p.tables e below (T.setTop (mkF m (pc + 1) (Ls) (.int (x % y) :: rest))) target) : Steps p.tables e below (T.setTop (mkF m pc Ls Ks)) target :=
  iremM (g := mkF m pc Ls Ks) X hx hg hd hs hy hr
/-- addresses are told to omega as natural numbers -/
theorem own_ane {a b : Addr} (h : ¬ @Eq Nat a b) : a ≠ b := h
theorem own_anq {a b : Addr} (h : a ≠ b) : ¬ @Eq Nat a b := h
theorem own_ale {n : Nat} {a : Addr} (h : @LE.le Nat instLENat n a) : n ≤ a := h
theorem own_alt {n : Nat} {a : Addr} (h : a < n) : @LT.lt Nat instLTNat a n := h
theorem own_fr_nil {n0 : Nat} {N : List Loc} (h : Fr n0 N) : Fr n0 (N ++ []) := Fr.app h (Fr.nil n0)
abbrev sU : Slot := .unset
abbrev sS : Slot := .second
abbrev sJ (x : Int64) : Slot := .val (.long x)
abbrev sI (x : Int32) : Slot := .val (.int x)

open Jvm.Free.XT
def fMag (c : Int64) : Int64 := if c < 0 then -c else c
def fMH (a b : Int64) : Int64 := (((a >>> ((32 : Int32).toInt64 &&& 63)) * (b >>> ((32 : Int32).toInt64 &&& 63))) + ((((a >>> ((32 : Int32).toInt64 &&& 63)) * (b &&& (4294967295 : Int64))) + (ushrL ((a &&& (4294967295 : Int64)) * (b &&& (4294967295 : Int64))) (32 : Int32))) >>> ((32 : Int32).toInt64 &&& 63))) + ((((((a >>> ((32 : Int32).toInt64 &&& 63)) * (b &&& (4294967295 : Int64))) + (ushrL ((a &&& (4294967295 : Int64)) * (b &&& (4294967295 : Int64))) (32 : Int32))) &&& (4294967295 : Int64)) + ((a &&& (4294967295 : Int64)) * (b >>> ((32 : Int32).toInt64 &&& 63)))) >>> ((32 : Int32).toInt64 &&& 63))
def fUMH (a b : Int64) : Int64 := ((fMH a b) + ((a >>> ((63 : Int32).toInt64 &&& 63)) &&& b)) + ((b >>> ((63 : Int32).toInt64 &&& 63)) &&& a)
def fCmp (a b : Int64) : Int32 := if a < b then (-1) else if a = b then 0 else 1
def cu (a b : Int64) : Int32 := fCmp (a + (-9223372036854775808)) (b + (-9223372036854775808))
def sameV (p l0 l1 l2 l3 q m0 m1 m2 m3 : Int64) : Int32 := if p = q ∧ l0 = m0 ∧ l1 = m1 ∧ l2 = m2 ∧ l3 = m3 then 1 else 0
theorem sameV_pos {p l0 l1 l2 l3 q m0 m1 m2 m3 : Int64} (h : p = q ∧ l0 = m0 ∧ l1 = m1 ∧ l2 = m2 ∧ l3 = m3) : sameV p l0 l1 l2 l3 q m0 m1 m2 m3 = 1 := if_pos h
theorem sameV_neg {p l0 l1 l2 l3 q m0 m1 m2 m3 : Int64} (h : ¬ (p = q ∧ l0 = m0 ∧ l1 = m1 ∧ l2 = m2 ∧ l3 = m3)) : sameV p l0 l1 l2 l3 q m0 m1 m2 m3 = 0 := if_neg h
theorem own_lt (x y : Int32) : x < y ↔ x.toInt < y.toInt := Int32.lt_iff_toInt_lt
theorem own_ltJ (x y : Int64) : x < y ↔ x.toInt < y.toInt := Int64.lt_iff_toInt_lt
theorem own_pos {a : Int32} (h : (0 : Int32) < a) : 0 ≤ a.toInt ∧ a.toInt < 2147483648 := by
  have q := rng32 a
  rw [own_lt] at h
  have e : (0 : Int32).toInt = 0 := rfl
  omega
theorem own_kp {i B : Int32} {A b : Int} (hb : 0 ≤ i.toInt ∧ i.toInt < A) (e : B.toInt = b) (h : i < B) : 0 ≤ i.toInt ∧ i.toInt < b := by
  rw [own_lt] at h
  omega
theorem own_ush (x : Int32) (k : Int32) (n : Nat) (hk : k.toBitVec.toNat % 32 = n) (h0 : 0 < n) (hx : 0 ≤ x.toInt) : (ushr x k).toInt = x.toInt / (2 ^ n : Nat) := by
  have q := c_iushr x k n hk h0
  have r := rng32 x
  rw [show x.toInt % 4294967296 = x.toInt by omega] at q
  exact q
theorem own_shr16 {x : Int32} {B : Int} (h0 : 0 ≤ x.toInt) (h1 : x.toInt < B * 65536) : 0 ≤ (ushr x (16 : Int32)).toInt ∧ (ushr x (16 : Int32)).toInt < B := by
  rw [own_ush x 16 16 rfl (by decide) h0]; constructor <;> omega
theorem own_shr8 {x : Int32} {B : Int} (h0 : 0 ≤ x.toInt) (h1 : x.toInt < B * 256) : 0 ≤ (ushr x (8 : Int32)).toInt ∧ (ushr x (8 : Int32)).toInt < B := by
  rw [own_ush x 8 8 rfl (by decide) h0]; constructor <;> omega
theorem own_shr4 {x : Int32} {B : Int} (h0 : 0 ≤ x.toInt) (h1 : x.toInt < B * 16) : 0 ≤ (ushr x (4 : Int32)).toInt ∧ (ushr x (4 : Int32)).toInt < B := by
  rw [own_ush x 4 4 rfl (by decide) h0]; constructor <;> omega
theorem own_shr2 {x : Int32} {B : Int} (h0 : 0 ≤ x.toInt) (h1 : x.toInt < B * 4) : 0 ≤ (ushr x (2 : Int32)).toInt ∧ (ushr x (2 : Int32)).toInt < B := by
  rw [own_ush x 2 2 rfl (by decide) h0]; constructor <;> omega
theorem own_last {n i : Int32} (h1 : 1 ≤ n.toInt) (h2 : n.toInt ≤ 31) (hi : 0 ≤ i.toInt ∧ i.toInt < 4) : 0 ≤ (n - ushr i (1 : Int32)).toInt ∧ (n - ushr i (1 : Int32)).toInt ≤ 32 := by
  have q := own_ush i 1 1 rfl (by decide) hi.1
  have r := c_isub n (ushr i 1)
  have s := rng32 (n - ushr i (1 : Int32))
  rw [q] at r
  omega
theorem own_n32 {r : Int32} (h : 0 ≤ r.toInt ∧ r.toInt ≤ 32) : 0 ≤ ((32 : Int32) + r).toInt ∧ ((32 : Int32) + r).toInt ≤ 64 := by
  have q := c_iadd 32 r
  have s := rng32 ((32 : Int32) + r)
  have e : (32 : Int32).toInt = 32 := rfl
  omega
theorem own_n64 {r : Int32} (h : 0 ≤ r.toInt ∧ r.toInt ≤ 32) : 0 ≤ r.toInt ∧ r.toInt ≤ 64 := by omega
theorem nar_one : nar .boolean (1 : Int32) = 1 := rfl
theorem nar_zero : nar .boolean (0 : Int32) = 0 := rfl
def fP1 (c h l : Int64) : Int64 := (fUMH (fMag c) l) + ((fMag c) * h)
def fP2 (c h l : Int64) : Int64 := (fMH (fMag c) h) + (if cu (fP1 c h l) (fUMH (fMag c) l) < 0 then (1 : Int32) else 0).toInt64
def fS0 (c l : Int64) : Int64 := ((fMag c) * l) <<< ((0 : Int32).toInt64 &&& 63)
def fS1 (c h l : Int64) : Int64 := ((fP1 c h l) <<< ((0 : Int32).toInt64 &&& 63)) ||| (0 : Int64)
def fS2 (c h l : Int64) : Int64 := ((fP2 c h l) <<< ((0 : Int32).toInt64 &&& 63)) ||| (0 : Int64)
def fN0 (c l : Int64) : Int64 := ((fS0 c l) ^^^ (-1 : Int64)) + (1 : Int64)
def fK0 (c l : Int64) : Int64 := if fN0 c l = 0 then 1 else 0
def fN1 (c h l : Int64) : Int64 := ((fS1 c h l) ^^^ (-1 : Int64)) + (fK0 c l)
def fK1 (c h l : Int64) : Int64 := if fK0 c l = 1 ∧ fN1 c h l = 0 then 1 else 0
def fN2 (c h l : Int64) : Int64 := ((fS2 c h l) ^^^ (-1 : Int64)) + (fK1 c h l)
def fK2 (c h l : Int64) : Int64 := if fK1 c h l = 1 ∧ fN2 c h l = 0 then 1 else 0
def fN3 (c h l : Int64) : Int64 := (-1 : Int64) + (fK2 c h l)
def fA (c h l : Int64) : Int64 × Int64 × Int64 × Int64 :=
  if c = 0 ∨ (h = 0 ∧ l = 0) then ((0 : Int64), (0 : Int64), (0 : Int64), (0 : Int64))
  else if c < 0 then ((0 : Int64) + (fN0 c l), ((0 : Int64) + (fN1 c h l)) + (0 : Int64), ((0 : Int64) + (fN2 c h l)) + (0 : Int64), ((0 : Int64) + (fN3 c h l)) + (0 : Int64))
  else ((0 : Int64) + (fS0 c l), ((0 : Int64) + (fS1 c h l)) + (0 : Int64), ((0 : Int64) + (fS2 c h l)) + (0 : Int64), (0 : Int64))
theorem own_irrJ (x : Int64) : ¬ x < x := by rw [own_ltJ]; omega
theorem own_nlz0 {r : Int32} (h : 0 ≤ r.toInt ∧ r.toInt ≤ 64) : ¬ (((255 : Int32) - ((192 : Int32) - r)).toInt64) < (0 : Int64) := by
  have q1 := c_isub 192 r
  have s1 := rng32 ((192 : Int32) - r)
  have e1 : (192 : Int32).toInt = 192 := rfl
  have q2 := c_isub 255 ((192 : Int32) - r)
  have s2 := rng32 ((255 : Int32) - ((192 : Int32) - r))
  have e2 : (255 : Int32).toInt = 255 := rfl
  have e3 : (0 : Int64).toInt = 0 := rfl
  rw [own_ltJ, c_i2l]
  omega
theorem own_fcmp_neg (a b : Int64) : fCmp a b < 0 ↔ a < b := by
  unfold fCmp
  split
  · simp_all
  · split <;> simp_all
theorem own_cu_lt (a b : Int64) : cu a b < 0 ↔ a + (-9223372036854775808) < b + (-9223372036854775808) := own_fcmp_neg _ _
theorem own_cu0 (x : Int64) : ¬ cu x (0 : Int64) < (0 : Int32) := by
  rw [own_cu_lt, own_ltJ]
  have r := rng64 (x + (-9223372036854775808))
  have e : ((0 : Int64) + (-9223372036854775808)).toInt = -9223372036854775808 := rfl
  omega
theorem own_cu_self (x : Int64) : ¬ cu x x < (0 : Int32) := by rw [own_cu_lt]; exact own_irrJ _
theorem own_cuadd0 (x : Int64) : ¬ cu (x + (0 : Int64)) x < (0 : Int32) := by rw [Int64.add_zero]; exact own_cu_self x
theorem own_ov0 (x : Int64) : ¬ (((0 : Int64) ^^^ (((0 : Int64) + x) + (0 : Int64))) &&& (x ^^^ (((0 : Int64) + x) + (0 : Int64)))) < (0 : Int64) := by
  simp
theorem own_k01 {P : Prop} [Decidable P] : (if P then (1 : Int64) else 0) = 0 ∨ (if P then (1 : Int64) else 0) = 1 := by by_cases h : P <;> simp [h]
theorem own_n3 (c h l : Int64) : (((0 : Int64) + (fN3 c h l)) + (0 : Int64)) = 0 ∨ (((0 : Int64) + (fN3 c h l)) + (0 : Int64)) = -1 := by
  have q : fK2 c h l = 0 ∨ fK2 c h l = 1 := own_k01
  unfold fN3
  rcases q with q | q <;> rw [q] <;> decide
theorem own_eqJ {x y : Int64} (h : x.toInt = y.toInt) : x = y := Int64.toInt_inj.mp h
theorem own_neg (m : Int64) : (m ^^^ (-1 : Int64)) + (1 : Int64) = -m := by
  apply Int64.toBitVec_inj.mp
  have e : (-1 : Int64).toBitVec = BitVec.allOnes 64 := by decide
  have e1 : (1 : Int64).toBitVec = 1#64 := rfl
  rw [Int64.toBitVec_add, Int64.toBitVec_xor, e, e1, BitVec.xor_allOnes, Int64.toBitVec_neg, BitVec.neg_eq_not_add]
theorem own_shl0 (m : Int64) : m <<< ((0 : Int32).toInt64 &&& 63) = m := by
  have e : ((0 : Int32).toInt64 &&& 63) = (0 : Int64) := by decide
  rw [e]; simp
theorem own_addsub (x k : Int64) : (x + k) - x = k := by
  rw [Int64.add_comm, Int64.add_sub_cancel]
theorem own_add_ne {l a : Int64} (h : ¬ a = 0) : ¬ l + a = l := fun q => h (by
  have r : (l + a) - l = a := own_addsub l a
  rw [q, Int64.sub_self] at r
  exact r.symm)
theorem own_add_ne0 {l a : Int64} (h : ¬ a = 0) : ¬ (l + a) + (0 : Int64) = l := by rw [Int64.add_zero]; exact own_add_ne h
theorem own_mh0 (m : Int64) : fMH m (0 : Int64) = 0 := by
  have e1 : (0 : Int64) >>> ((32 : Int32).toInt64 &&& 63) = 0 := by decide
  have e2 : (0 : Int64) &&& (4294967295 : Int64) = 0 := by decide
  have e3 : ushrL (0 : Int64) (32 : Int32) = 0 := by decide
  simp only [fMH, e1, e2, Int64.mul_zero, e3, Int64.add_zero, e1, e2]
theorem own_umh0 (m : Int64) : fUMH m (0 : Int64) = 0 := by
  have e1 : (0 : Int64) >>> ((63 : Int32).toInt64 &&& 63) = 0 := by decide
  simp only [fUMH, own_mh0, Int64.and_zero, e1, Int64.zero_and, Int64.add_zero]
theorem own_lshr (x : Int64) : (x >>> ((32 : Int32).toInt64 &&& 63)).toInt = x.toInt / 4294967296 := c_lshr x 32 32 rfl
theorem own_lshr63 (x : Int64) : (x >>> ((63 : Int32).toInt64 &&& 63)).toInt = x.toInt / 9223372036854775808 := c_lshr x 63 63 rfl
theorem own_lushr (x : Int64) : (ushrL x (32 : Int32)).toInt = (x.toInt % 18446744073709551616) / 4294967296 := c_lushr x 32 32 rfl (by decide)
theorem own_lushr1 (x : Int64) : (ushrL x (1 : Int32)).toInt = (x.toInt % 18446744073709551616) / 2 := c_lushr x 1 1 rfl (by decide)
theorem own_mask (x : Int64) : (x &&& (4294967295 : Int64)).toInt = x.toInt % 4294967296 := c_maskL x 4294967295 32 (by decide) rfl
theorem own_mh1 {m : Int64} (h : 0 ≤ m.toInt) : fMH m (1 : Int64) = 0 := by
  have e1 : (1 : Int64) >>> ((32 : Int32).toInt64 &&& 63) = 0 := by decide
  have e2 : (1 : Int64) &&& (4294967295 : Int64) = 1 := by decide
  have r := rng64 m
  have u : ushrL (m &&& (4294967295 : Int64)) (32 : Int32) = 0 := by
    apply own_eqJ
    rw [own_lushr, own_mask]
    show _ = (0 : Int)
    omega
  have a : (m >>> ((32 : Int32).toInt64 &&& 63)) >>> ((32 : Int32).toInt64 &&& 63) = 0 := by
    apply own_eqJ
    rw [own_lshr, own_lshr]
    show _ = (0 : Int)
    omega
  have b : ((m >>> ((32 : Int32).toInt64 &&& 63)) &&& (4294967295 : Int64)) >>> ((32 : Int32).toInt64 &&& 63) = 0 := by
    apply own_eqJ
    rw [own_lshr, own_mask]
    show _ = (0 : Int)
    omega
  simp only [fMH, e1, e2, Int64.mul_zero, Int64.mul_one, u, Int64.add_zero, Int64.zero_add, a, b]
theorem own_umh1 {m : Int64} (h : 0 ≤ m.toInt) : fUMH m (1 : Int64) = 0 := by
  have e1 : (1 : Int64) >>> ((63 : Int32).toInt64 &&& 63) = 0 := by decide
  have r := rng64 m
  have a : m >>> ((63 : Int32).toInt64 &&& 63) = 0 := by
    apply own_eqJ
    rw [own_lshr63]
    show _ = (0 : Int)
    omega
  simp only [fUMH, own_mh1 h, a, e1, Int64.zero_and, Int64.add_zero]
theorem own_ov {l a k : Int64} (hl : l = 0 ∨ l = -1) (hk : k = 0 ∨ k = 1) (ha : a = 0 ∨ a = -1) : ¬ ((l ^^^ ((l + a) + k)) &&& (a ^^^ ((l + a) + k))) < (0 : Int64) := by
  rcases hl with rfl | rfl <;> rcases hk with rfl | rfl <;> rcases ha with rfl | rfl <;> decide
theorem own_ov3 {l a : Int64} (hl : l = 0 ∨ l = -1) (ha : -9223372036854775808 < a.toInt) : ¬ ((l ^^^ ((l + a) + (0 : Int64))) &&& (a ^^^ ((l + a) + (0 : Int64)))) < (0 : Int64) := by
  rw [and_neg64, xor_neg64, xor_neg64]
  rcases hl with rfl | rfl
  · rw [Int64.add_zero, Int64.zero_add]
    intro q
    exact q.2 Iff.rfl
  · rw [Int64.add_zero]
    have q := c_ladd (-1) a
    have r := rng64 ((-1 : Int64) + a)
    have s := rng64 a
    have e1 : (-1 : Int64).toInt = -1 := rfl
    simp only [own_ltJ, show (0 : Int64).toInt = 0 from rfl, e1]
    intro w
    rw [e1] at q
    have w1 := w.1
    have w2 := w.2
    by_cases g1 : a.toInt < 0 <;> by_cases g2 : ((-1 : Int64) + a).toInt < 0 <;> simp [g1, g2] at w1 w2
    all_goals omega
def fPt (e : Int64) : Int64 := if e = (-9223372036854775808 : Int64) then (-9223372036854775807 : Int64) else if (9223372036854775680 : Int64) < e then (9223372036854775680 : Int64) else e
def fOt (d : Int64) : Int64 := if d = (-9223372036854775808 : Int64) then (-9223372036854775807 : Int64) else d
theorem fPt_ne (e : Int64) : ¬ fPt e = (-9223372036854775808 : Int64) := by
  unfold fPt
  split
  · decide
  · split
    · decide
    · assumption
theorem fPt_le (e : Int64) : (fPt e).toInt ≤ 9223372036854775680 := by
  unfold fPt
  split
  · decide
  · split
    · decide
    · rename_i h
      rw [own_ltJ] at h
      exact Int.not_lt.mp h
theorem own_ptk {e k : Int64} (h0 : 0 ≤ k.toInt) (h1 : k.toInt ≤ 127) : ¬ fPt e + k < fPt e := by
  have q := c_ladd (fPt e) k
  have r := rng64 (fPt e + k)
  have s := rng64 (fPt e)
  have t := fPt_le e
  rw [own_ltJ]
  omega
theorem own_dl (d : Int64) : -1152921504606846976 ≤ (d >>> ((3 : Int32).toInt64 &&& 63)).toInt ∧ (d >>> ((3 : Int32).toInt64 &&& 63)).toInt < 1152921504606846976 := by
  have q : (d >>> ((3 : Int32).toInt64 &&& 63)).toInt = d.toInt / 8 := c_lshr d 3 3 rfl
  have r := rng64 d
  rw [q]
  omega
theorem own_mag {d : Int64} (h : -9223372036854775808 < d.toInt) : ((fMag d).toInt = d.toInt ∧ 0 ≤ d.toInt) ∨ ((fMag d).toInt = - d.toInt ∧ d.toInt < 0) := by
  unfold fMag
  have z : (0 : Int64).toInt = 0 := rfl
  split
  · rename_i g
    rw [own_ltJ, z] at g
    have q := c_lneg d
    have r := rng64 (-d)
    have s := rng64 d
    right
    omega
  · rename_i g
    rw [own_ltJ, z] at g
    left
    omega
theorem own_mag0 {d : Int64} (h : -9223372036854775808 < d.toInt) : 0 ≤ (fMag d).toInt := by rcases own_mag h with q | q <;> omega
theorem own_nz {x : Int64} (h : x.toInt ≠ 0) : ¬ x = 0 := fun q => h (by rw [q]; rfl)
theorem own_nz' {x : Int64} (h : ¬ x = 0) : x.toInt ≠ 0 := fun q => h (own_eqJ q)
theorem own_magne {d : Int64} (h : -9223372036854775808 < d.toInt) (hd : ¬ d = 0) : ¬ fMag d = 0 := by
  have q := own_nz' hd
  apply own_nz
  rcases own_mag h with g | g <;> omega
theorem own_negne {x : Int64} (h : ¬ x = 0) : ¬ -x = 0 := by
  have q := own_nz' h
  have c := c_lneg x
  have r := rng64 x
  apply own_nz
  omega
theorem own_two {d : Int64} (h : -1152921504606846976 ≤ d.toInt ∧ d.toInt < 1152921504606846976) : ((2 : Int64) * d).toInt = 2 * d.toInt := by
  have q := c_lmul 2 d
  have r := rng64 ((2 : Int64) * d)
  have e : (2 : Int64).toInt = 2 := rfl
  rw [e] at q
  omega
theorem own_q {d : Int64} (h : -1152921504606846976 ≤ d.toInt ∧ d.toInt < 1152921504606846976) (hd : ¬ d = 0) : 0 < (ushrL (fMag ((2 : Int64) * d)) (1 : Int32)).toInt ∧ (ushrL (fMag ((2 : Int64) * d)) (1 : Int32)).toInt ≤ 1152921504606846976 := by
  have t := own_two h
  have n := own_nz' hd
  have m := own_mag (d := (2 : Int64) * d) (by omega)
  rw [own_lushr1]
  rcases m with m | m <;> omega
theorem own_even {d : Int64} (h : -1152921504606846976 ≤ d.toInt ∧ d.toInt < 1152921504606846976) : (fMag ((2 : Int64) * d)) <<< ((63 : Int32).toInt64 &&& 63) = 0 := by
  have t := own_two h
  have m := own_mag (d := (2 : Int64) * d) (by omega)
  have q : ((fMag ((2 : Int64) * d) <<< ((63 : Int32).toInt64 &&& 63)).toInt - (fMag ((2 : Int64) * d)).toInt * 9223372036854775808) % 18446744073709551616 = 0 := c_lshl _ 63 63 rfl
  have r := rng64 (fMag ((2 : Int64) * d) <<< ((63 : Int32).toInt64 &&& 63))
  apply own_eqJ
  show _ = (0 : Int)
  rcases m with m | m <;> rw [m.1, t] at q <;> omega
theorem own_same_refl (p l0 l1 l2 l3 : Int64) : sameV p l0 l1 l2 l3 p l0 l1 l2 l3 = 1 := sameV_pos ⟨rfl, rfl, rfl, rfl, rfl⟩
theorem own_same_eq {p q l0 l1 l2 l3 m0 m1 m2 m3 : Int64} {A : Int64 × Int64 × Int64 × Int64} (hp : p = q) (h1 : (l0, l1, l2, l3) = A) (h2 : (m0, m1, m2, m3) = A) : sameV p l0 l1 l2 l3 q m0 m1 m2 m3 = 1 := by
  have e := h1.trans h2.symm
  simp only [Prod.mk.injEq] at e
  exact sameV_pos ⟨hp, e⟩
theorem own_same_pt {p q l0 l1 l2 l3 m0 m1 m2 m3 : Int64} (hp : ¬ p = q) : sameV p l0 l1 l2 l3 q m0 m1 m2 m3 = 0 := sameV_neg fun h => hp h.1
theorem own_df0 {p q l0 l1 l2 l3 m0 m1 m2 m3 n0 n1 n2 n3 : Int64} {A : Int64 × Int64 × Int64 × Int64} (h1 : (l0, l1, l2, l3) = A) (h2 : (m0, m1, m2, m3) = A) (d : ¬ n0 = m0) : sameV p l0 l1 l2 l3 q n0 n1 n2 n3 = 0 := by
  have e := h1.trans h2.symm
  simp only [Prod.mk.injEq] at e
  exact sameV_neg fun h => d (h.2.1.symm.trans e.1)
theorem own_df1 {p q l0 l1 l2 l3 m0 m1 m2 m3 n0 n1 n2 n3 : Int64} {A : Int64 × Int64 × Int64 × Int64} (h1 : (l0, l1, l2, l3) = A) (h2 : (m0, m1, m2, m3) = A) (d : ¬ n1 = m1) : sameV p l0 l1 l2 l3 q n0 n1 n2 n3 = 0 := by
  have e := h1.trans h2.symm
  simp only [Prod.mk.injEq] at e
  exact sameV_neg fun h => d (h.2.2.1.symm.trans e.2.1)
theorem own_df2 {p q l0 l1 l2 l3 m0 m1 m2 m3 n0 n1 n2 n3 : Int64} {A : Int64 × Int64 × Int64 × Int64} (h1 : (l0, l1, l2, l3) = A) (h2 : (m0, m1, m2, m3) = A) (d : ¬ n2 = m2) : sameV p l0 l1 l2 l3 q n0 n1 n2 n3 = 0 := by
  have e := h1.trans h2.symm
  simp only [Prod.mk.injEq] at e
  exact sameV_neg fun h => d (h.2.2.2.1.symm.trans e.2.2.1)
theorem own_df3 {p q l0 l1 l2 l3 m0 m1 m2 m3 n0 n1 n2 n3 : Int64} {A : Int64 × Int64 × Int64 × Int64} (h1 : (l0, l1, l2, l3) = A) (h2 : (m0, m1, m2, m3) = A) (d : ¬ n3 = m3) : sameV p l0 l1 l2 l3 q n0 n1 n2 n3 = 0 := by
  have e := h1.trans h2.symm
  simp only [Prod.mk.injEq] at e
  exact sameV_neg fun h => d (h.2.2.2.2.symm.trans e.2.2.2)
theorem own_sym {p l0 l1 l2 l3 q m0 m1 m2 m3 : Int64} {r : Int32} (h : sameV p l0 l1 l2 l3 q m0 m1 m2 m3 = r) : sameV q m0 m1 m2 m3 p l0 l1 l2 l3 = r := by
  rw [← h]
  unfold sameV
  by_cases g : p = q ∧ l0 = m0 ∧ l1 = m1 ∧ l2 = m2 ∧ l3 = m3
  · rw [if_pos g, if_pos ⟨g.1.symm, g.2.1.symm, g.2.2.1.symm, g.2.2.2.1.symm, g.2.2.2.2.symm⟩]
  · rw [if_neg g, if_neg fun k => g ⟨k.1.symm, k.2.1.symm, k.2.2.1.symm, k.2.2.2.1.symm, k.2.2.2.2.symm⟩]

def Qabsm (Z : State) (a : Int64) (h0 : Heap) (n0 : Nat) (v : Option Value) (h : Heap) (L : List Loc) : Prop := v = some (.long (fMag a)) ∧ Fr n0 L ∧ h = h0
theorem ef_absm (m : MethodId) (x0 : Int64) : entryFrame m #[(.long x0)] 2 = mkF m 0 #[sJ x0, sS] [] := by first | (simp [entryFrame, mkF, argsToLocals, Value.category]; done) | rfl
theorem d5_0 : decode jdk_29_method_61_code 0 = .ok (.lload_n 0, 1) := by decide +kernel
theorem d5_1 : decode jdk_29_method_61_code 1 = .ok (.lconst 0, 1) := by decide +kernel
theorem d5_2 : decode jdk_29_method_61_code 2 = .ok (.lcmp, 1) := by decide +kernel
theorem d5_3 : decode jdk_29_method_61_code 3 = .ok (.ifCond .ge 8, 3) := by decide +kernel
theorem d5_6 : decode jdk_29_method_61_code 6 = .ok (.lload_n 0, 1) := by decide +kernel
theorem d5_7 : decode jdk_29_method_61_code 7 = .ok (.lneg, 1) := by decide +kernel
theorem d5_8 : decode jdk_29_method_61_code 8 = .ok (.goto 4, 3) := by decide +kernel
theorem d5_12 : decode jdk_29_method_61_code 12 = .ok (.lreturn, 1) := by decide +kernel
theorem d5_11 : decode jdk_29_method_61_code 11 = .ok (.lload_n 0, 1) := by decide +kernel
set_option maxRecDepth 65536 in
set_option maxHeartbeats 40000000 in
theorem absm (l : Launch) (Z : State) (a0 : Array Value) (hw : ∀ d ∈ tables_1, d.before a0 Z = true) (ws : List Jvm.Cond) (a : Int64) (h0 : Heap) (n0 : Nat) (Z0 : n0 ≤ h0.size) :
    MetFree l (⟨"java/lang/Math", "abs", "(J)J"⟩ : MethodName) (head1 (Jvm.Cond.code (⟨"java/lang/Math", "abs", "(J)J"⟩ : MethodName) jdk_29_method_61_code 2 (some .long) :: ws) ({ frames := 0, cells := 0, slots := 0, locals := 0 } : Room)) (fun a_ U_ => a_ = #[(.long a)] ∧ Z.Warmed39 U_.vm ∧ U_.heap = h0) (fun _ _ _ _ _ => True) (fun _ U_ o_ V_ => ∃ v_ L_, o_ = .returned v_ ∧ Qabsm Z a h0 n0 v_ V_.heap L_ ∧ FrameEnd U_ o_ V_ L_ ({ frames := 0, cells := 0, slots := 0, locals := 0 } : Room).cells ({ frames := 0, cells := 0, slots := 0, locals := 0 } : Room).slots) := by
  refine MetFree.of_bodySF (Jvm.Free.JP.mathPlain rfl (by decide +kernel)) hisR ?_
  intro p e s m args below meth c s₁ Bd hml0 hP hK
  obtain ⟨rfl, hZ, hh⟩ := hP
  have hx := Bd.exec
  have hby := Bd.bytes
  have hml : c.maxLocals = 2 := hml0
  have hown : s.vm.findClass "java/lang/Math" = some m.cls := findClass_of_methodNamed Bd.named
  have hnm := (name_of_methodNamed Bd.named Bd.method).1
  have X0 : Stand p l e ({ frames := 0, cells := 0, slots := 0, locals := 0 } : Room) s m #[(.long a)] below meth c s₁ [] 0 0 := Stand.of_body Bd
  have e0 : s₁.heap = h0 := by rw [← hh, Bd.state]; rfl
  have N0 := Fr.nil n0
  refine Gl.go (A := s₁.setTop (entryFrame m #[(.long a)] 2)) (P := fun o_ U_ => ∃ v_ L_, o_ = .returned v_ ∧ Qabsm Z a h0 n0 v_ U_.heap L_ ∧ FrameEnd s o_ U_ L_ ({ frames := 0, cells := 0, slots := 0, locals := 0 } : Room).cells ({ frames := 0, cells := 0, slots := 0, locals := 0 } : Room).slots) (fun t_ k_ => castTop (ef_absm m a) k_) ?_
  show Gl p.tables e below _ (s₁.setTop (mkF m 0 #[sJ a, sS] []))
  refine Gl.go (fun _ hr => zXT_lloadN X0.here hx rfl (hb hby d5_0) rfl (zXT_lconst X0.here hx rfl (hb hby d5_1) (zXT_lcmp X0.here hx rfl (hb hby d5_2) rfl hr))) ?_
  by_cases hc1 : a < (0 : Int64)
  · refine Gl.go (fun _ hr => zXS_ifNo X0.here hx rfl (hb hby d5_3) rfl (XT.ll_ge_f hc1) (zXT_lloadN X0.here hx rfl (hb hby d5_6) rfl (zXT_lneg X0.here hx rfl (hb hby d5_7) rfl (zXS_goto X0.here hx rfl (pc0 := 8) (pc' := 12) rfl (hb hby d5_8) (by decide) (by decide) hr)))) ?_
    obtain ⟨fs, hr, hrun, hended, hW, hsame⟩ := X0.leave (v := some (.long (-a))) (fun h => by rw [Bd.returns] at h; cases h)
    refine ⟨_, _, retOut X0 hx Bd.returns rfl (Or.inr (Or.inl ⟨rfl, rfl, _, rfl⟩)) (hb hby d5_12) hr, hrun, hended, _, _, rfl, ?_, ⟨⟨_, rfl⟩, hW, hsame.mono (by decide) (by decide)⟩⟩
    show Qabsm Z a h0 n0 _ s₁.heap _
    rw [e0]
    exact ⟨(by rw [fMag, if_pos hc1]), N0, rfl⟩
  · refine Gl.go (fun _ hr => zXS_ifYes X0.here hx rfl (pc0 := 3) (pc' := 11) rfl (hb hby d5_3) rfl (XT.ll_ge_t hc1) (by decide) (by decide) (zXT_lloadN X0.here hx rfl (hb hby d5_11) rfl hr)) ?_
    obtain ⟨fs, hr, hrun, hended, hW, hsame⟩ := X0.leave (v := some (.long a)) (fun h => by rw [Bd.returns] at h; cases h)
    refine ⟨_, _, retOut X0 hx Bd.returns rfl (Or.inr (Or.inl ⟨rfl, rfl, _, rfl⟩)) (hb hby d5_12) hr, hrun, hended, _, _, rfl, ?_, ⟨⟨_, rfl⟩, hW, hsame.mono (by decide) (by decide)⟩⟩
    show Qabsm Z a h0 n0 _ s₁.heap _
    rw [e0]
    exact ⟨(by rw [fMag, if_neg hc1]), N0, rfl⟩
def Qmhm (Z : State) (a : Int64) (b : Int64) (h0 : Heap) (n0 : Nat) (v : Option Value) (h : Heap) (L : List Loc) : Prop := v = some (.long (fMH a b)) ∧ Fr n0 L ∧ h = h0
theorem ef_mhm (m : MethodId) (x0 : Int64) (x1 : Int64) : entryFrame m #[(.long x0), (.long x1)] 20 = mkF m 0 #[sJ x0, sS, sJ x1, sS, sU, sU, sU, sU, sU, sU, sU, sU, sU, sU, sU, sU, sU, sU, sU, sU] [] := by first | (simp [entryFrame, mkF, argsToLocals, Value.category]; done) | rfl
theorem d7_0 : decode jdk_29_method_45_code 0 = .ok (.lload_n 0, 1) := by decide +kernel
theorem d7_1 : decode jdk_29_method_45_code 1 = .ok (.bipush 32, 2) := by decide +kernel
theorem d7_3 : decode jdk_29_method_45_code 3 = .ok (.lshr, 1) := by decide +kernel
theorem d7_4 : decode jdk_29_method_45_code 4 = .ok (.lstore 4, 2) := by decide +kernel
theorem d7_6 : decode jdk_29_method_45_code 6 = .ok (.lload_n 0, 1) := by decide +kernel
theorem d7_7 : decode jdk_29_method_45_code 7 = .ok (.ldc2_w 138, 3) := by decide +kernel
theorem d7_10 : decode jdk_29_method_45_code 10 = .ok (.land, 1) := by decide +kernel
theorem d7_11 : decode jdk_29_method_45_code 11 = .ok (.lstore 6, 2) := by decide +kernel
theorem d7_13 : decode jdk_29_method_45_code 13 = .ok (.lload_n 2, 1) := by decide +kernel
theorem d7_14 : decode jdk_29_method_45_code 14 = .ok (.bipush 32, 2) := by decide +kernel
theorem d7_16 : decode jdk_29_method_45_code 16 = .ok (.lshr, 1) := by decide +kernel
theorem d7_17 : decode jdk_29_method_45_code 17 = .ok (.lstore 8, 2) := by decide +kernel
theorem d7_19 : decode jdk_29_method_45_code 19 = .ok (.lload_n 2, 1) := by decide +kernel
theorem d7_20 : decode jdk_29_method_45_code 20 = .ok (.ldc2_w 138, 3) := by decide +kernel
theorem d7_23 : decode jdk_29_method_45_code 23 = .ok (.land, 1) := by decide +kernel
theorem d7_24 : decode jdk_29_method_45_code 24 = .ok (.lstore 10, 2) := by decide +kernel
theorem d7_26 : decode jdk_29_method_45_code 26 = .ok (.lload 6, 2) := by decide +kernel
theorem d7_28 : decode jdk_29_method_45_code 28 = .ok (.lload 10, 2) := by decide +kernel
theorem d7_30 : decode jdk_29_method_45_code 30 = .ok (.lmul, 1) := by decide +kernel
theorem d7_31 : decode jdk_29_method_45_code 31 = .ok (.lstore 12, 2) := by decide +kernel
theorem d7_33 : decode jdk_29_method_45_code 33 = .ok (.lload 4, 2) := by decide +kernel
theorem d7_35 : decode jdk_29_method_45_code 35 = .ok (.lload 10, 2) := by decide +kernel
theorem d7_37 : decode jdk_29_method_45_code 37 = .ok (.lmul, 1) := by decide +kernel
theorem d7_38 : decode jdk_29_method_45_code 38 = .ok (.lload 12, 2) := by decide +kernel
theorem d7_40 : decode jdk_29_method_45_code 40 = .ok (.bipush 32, 2) := by decide +kernel
theorem d7_42 : decode jdk_29_method_45_code 42 = .ok (.lushr, 1) := by decide +kernel
theorem d7_43 : decode jdk_29_method_45_code 43 = .ok (.ladd, 1) := by decide +kernel
theorem d7_44 : decode jdk_29_method_45_code 44 = .ok (.lstore 14, 2) := by decide +kernel
theorem d7_46 : decode jdk_29_method_45_code 46 = .ok (.lload 14, 2) := by decide +kernel
theorem d7_48 : decode jdk_29_method_45_code 48 = .ok (.ldc2_w 138, 3) := by decide +kernel
theorem d7_51 : decode jdk_29_method_45_code 51 = .ok (.land, 1) := by decide +kernel
theorem d7_52 : decode jdk_29_method_45_code 52 = .ok (.lstore 16, 2) := by decide +kernel
theorem d7_54 : decode jdk_29_method_45_code 54 = .ok (.lload 14, 2) := by decide +kernel
theorem d7_56 : decode jdk_29_method_45_code 56 = .ok (.bipush 32, 2) := by decide +kernel
theorem d7_58 : decode jdk_29_method_45_code 58 = .ok (.lshr, 1) := by decide +kernel
theorem d7_59 : decode jdk_29_method_45_code 59 = .ok (.lstore 18, 2) := by decide +kernel
theorem d7_61 : decode jdk_29_method_45_code 61 = .ok (.lload 16, 2) := by decide +kernel
theorem d7_63 : decode jdk_29_method_45_code 63 = .ok (.lload 6, 2) := by decide +kernel
theorem d7_65 : decode jdk_29_method_45_code 65 = .ok (.lload 8, 2) := by decide +kernel
theorem d7_67 : decode jdk_29_method_45_code 67 = .ok (.lmul, 1) := by decide +kernel
theorem d7_68 : decode jdk_29_method_45_code 68 = .ok (.ladd, 1) := by decide +kernel
theorem d7_69 : decode jdk_29_method_45_code 69 = .ok (.lstore 16, 2) := by decide +kernel
theorem d7_71 : decode jdk_29_method_45_code 71 = .ok (.lload 4, 2) := by decide +kernel
theorem d7_73 : decode jdk_29_method_45_code 73 = .ok (.lload 8, 2) := by decide +kernel
theorem d7_75 : decode jdk_29_method_45_code 75 = .ok (.lmul, 1) := by decide +kernel
theorem d7_76 : decode jdk_29_method_45_code 76 = .ok (.lload 18, 2) := by decide +kernel
theorem d7_78 : decode jdk_29_method_45_code 78 = .ok (.ladd, 1) := by decide +kernel
theorem d7_79 : decode jdk_29_method_45_code 79 = .ok (.lload 16, 2) := by decide +kernel
theorem d7_81 : decode jdk_29_method_45_code 81 = .ok (.bipush 32, 2) := by decide +kernel
theorem d7_83 : decode jdk_29_method_45_code 83 = .ok (.lshr, 1) := by decide +kernel
theorem d7_84 : decode jdk_29_method_45_code 84 = .ok (.ladd, 1) := by decide +kernel
theorem d7_85 : decode jdk_29_method_45_code 85 = .ok (.lreturn, 1) := by decide +kernel
set_option maxRecDepth 65536 in
set_option maxHeartbeats 40000000 in
theorem mhm (l : Launch) (Z : State) (a0 : Array Value) (hw : ∀ d ∈ tables_1, d.before a0 Z = true) (ws : List Jvm.Cond) (a : Int64) (b : Int64) (h0 : Heap) (n0 : Nat) (Z0 : n0 ≤ h0.size) :
    MetFree l (⟨"java/lang/Math", "multiplyHigh", "(JJ)J"⟩ : MethodName) (head1 (Jvm.Cond.code (⟨"java/lang/Math", "multiplyHigh", "(JJ)J"⟩ : MethodName) jdk_29_method_45_code 20 (some .long) :: ws) ({ frames := 0, cells := 0, slots := 0, locals := 0 } : Room)) (fun a_ U_ => a_ = #[(.long a), (.long b)] ∧ Z.Warmed39 U_.vm ∧ U_.heap = h0) (fun _ _ _ _ _ => True) (fun _ U_ o_ V_ => ∃ v_ L_, o_ = .returned v_ ∧ Qmhm Z a b h0 n0 v_ V_.heap L_ ∧ FrameEnd U_ o_ V_ L_ ({ frames := 0, cells := 0, slots := 0, locals := 0 } : Room).cells ({ frames := 0, cells := 0, slots := 0, locals := 0 } : Room).slots) := by
  refine MetFree.of_bodySF (Jvm.Free.JP.mathPlain rfl (by decide +kernel)) hisR ?_
  intro p e s m args below meth c s₁ Bd hml0 hP hK
  obtain ⟨rfl, hZ, hh⟩ := hP
  have hx := Bd.exec
  have hby := Bd.bytes
  have hml : c.maxLocals = 20 := hml0
  have hown : s.vm.findClass "java/lang/Math" = some m.cls := findClass_of_methodNamed Bd.named
  have hnm := (name_of_methodNamed Bd.named Bd.method).1
  have X0 : Stand p l e ({ frames := 0, cells := 0, slots := 0, locals := 0 } : Room) s m #[(.long a), (.long b)] below meth c s₁ [] 0 0 := Stand.of_body Bd
  have e0 : s₁.heap = h0 := by rw [← hh, Bd.state]; rfl
  have N0 := Fr.nil n0
  refine Gl.go (A := s₁.setTop (entryFrame m #[(.long a), (.long b)] 20)) (P := fun o_ U_ => ∃ v_ L_, o_ = .returned v_ ∧ Qmhm Z a b h0 n0 v_ U_.heap L_ ∧ FrameEnd s o_ U_ L_ ({ frames := 0, cells := 0, slots := 0, locals := 0 } : Room).cells ({ frames := 0, cells := 0, slots := 0, locals := 0 } : Room).slots) (fun t_ k_ => castTop (ef_mhm m a b) k_) ?_
  show Gl p.tables e below _ (s₁.setTop (mkF m 0 #[sJ a, sS, sJ b, sS, sU, sU, sU, sU, sU, sU, sU, sU, sU, sU, sU, sU, sU, sU, sU, sU] []))
  refine Gl.go (fun _ hr => zXT_lloadN X0.here hx rfl (hb hby d7_0) rfl (zXS_bipush X0.here hx rfl (hb hby d7_1) (zXT_lshr X0.here hx rfl (hb hby d7_3) rfl (zXT_lstore X0.here hx rfl (hb hby d7_4) rfl (l' := #[sJ a, sS, sJ b, sS, sJ (a >>> ((32 : Int32).toInt64 &&& 63)), sS, sU, sU, sU, sU, sU, sU, sU, sU, sU, sU, sU, sU, sU, sU]) rfl (zXT_lloadN X0.here hx rfl (hb hby d7_6) rfl hr))))) ?_
  refine Gl.go (X0.ldc2Long hx hown (mvT hZ (hw _ (List.mem_of_getElem? (i := 45) rfl))) rfl (hb hby d7_7)) ?_
  refine Gl.go (fun _ hr => zXT_land X0.here hx rfl (hb hby d7_10) rfl (zXT_lstore X0.here hx rfl (hb hby d7_11) rfl (l' := #[sJ a, sS, sJ b, sS, sJ (a >>> ((32 : Int32).toInt64 &&& 63)), sS, sJ (a &&& (4294967295 : Int64)), sS, sU, sU, sU, sU, sU, sU, sU, sU, sU, sU, sU, sU]) rfl (zXT_lloadN X0.here hx rfl (hb hby d7_13) rfl (zXS_bipush X0.here hx rfl (hb hby d7_14) (zXT_lshr X0.here hx rfl (hb hby d7_16) rfl (zXT_lstore X0.here hx rfl (hb hby d7_17) rfl (l' := #[sJ a, sS, sJ b, sS, sJ (a >>> ((32 : Int32).toInt64 &&& 63)), sS, sJ (a &&& (4294967295 : Int64)), sS, sJ (b >>> ((32 : Int32).toInt64 &&& 63)), sS, sU, sU, sU, sU, sU, sU, sU, sU, sU, sU]) rfl (zXT_lloadN X0.here hx rfl (hb hby d7_19) rfl hr))))))) ?_
  refine Gl.go (X0.ldc2Long hx hown (mvT hZ (hw _ (List.mem_of_getElem? (i := 45) rfl))) rfl (hb hby d7_20)) ?_
  refine Gl.go (fun _ hr => zXT_land X0.here hx rfl (hb hby d7_23) rfl (zXT_lstore X0.here hx rfl (hb hby d7_24) rfl (l' := #[sJ a, sS, sJ b, sS, sJ (a >>> ((32 : Int32).toInt64 &&& 63)), sS, sJ (a &&& (4294967295 : Int64)), sS, sJ (b >>> ((32 : Int32).toInt64 &&& 63)), sS, sJ (b &&& (4294967295 : Int64)), sS, sU, sU, sU, sU, sU, sU, sU, sU]) rfl (zXT_lload X0.here hx rfl (hb hby d7_26) rfl (zXT_lload X0.here hx rfl (hb hby d7_28) rfl (zXT_lmul X0.here hx rfl (hb hby d7_30) rfl (zXT_lstore X0.here hx rfl (hb hby d7_31) rfl (l' := #[sJ a, sS, sJ b, sS, sJ (a >>> ((32 : Int32).toInt64 &&& 63)), sS, sJ (a &&& (4294967295 : Int64)), sS, sJ (b >>> ((32 : Int32).toInt64 &&& 63)), sS, sJ (b &&& (4294967295 : Int64)), sS, sJ ((a &&& (4294967295 : Int64)) * (b &&& (4294967295 : Int64))), sS, sU, sU, sU, sU, sU, sU]) rfl (zXT_lload X0.here hx rfl (hb hby d7_33) rfl (zXT_lload X0.here hx rfl (hb hby d7_35) rfl (zXT_lmul X0.here hx rfl (hb hby d7_37) rfl (zXT_lload X0.here hx rfl (hb hby d7_38) rfl (zXS_bipush X0.here hx rfl (hb hby d7_40) (zXT_lushr X0.here hx rfl (hb hby d7_42) rfl (zXT_ladd X0.here hx rfl (hb hby d7_43) rfl (zXT_lstore X0.here hx rfl (hb hby d7_44) rfl (l' := #[sJ a, sS, sJ b, sS, sJ (a >>> ((32 : Int32).toInt64 &&& 63)), sS, sJ (a &&& (4294967295 : Int64)), sS, sJ (b >>> ((32 : Int32).toInt64 &&& 63)), sS, sJ (b &&& (4294967295 : Int64)), sS, sJ ((a &&& (4294967295 : Int64)) * (b &&& (4294967295 : Int64))), sS, sJ (((a >>> ((32 : Int32).toInt64 &&& 63)) * (b &&& (4294967295 : Int64))) + (XT.ushrL ((a &&& (4294967295 : Int64)) * (b &&& (4294967295 : Int64))) (32 : Int32))), sS, sU, sU, sU, sU]) rfl (zXT_lload X0.here hx rfl (hb hby d7_46) rfl hr))))))))))))))) ?_
  refine Gl.go (X0.ldc2Long hx hown (mvT hZ (hw _ (List.mem_of_getElem? (i := 45) rfl))) rfl (hb hby d7_48)) ?_
  refine Gl.go (fun _ hr => zXT_land X0.here hx rfl (hb hby d7_51) rfl (zXT_lstore X0.here hx rfl (hb hby d7_52) rfl (l' := #[sJ a, sS, sJ b, sS, sJ (a >>> ((32 : Int32).toInt64 &&& 63)), sS, sJ (a &&& (4294967295 : Int64)), sS, sJ (b >>> ((32 : Int32).toInt64 &&& 63)), sS, sJ (b &&& (4294967295 : Int64)), sS, sJ ((a &&& (4294967295 : Int64)) * (b &&& (4294967295 : Int64))), sS, sJ (((a >>> ((32 : Int32).toInt64 &&& 63)) * (b &&& (4294967295 : Int64))) + (XT.ushrL ((a &&& (4294967295 : Int64)) * (b &&& (4294967295 : Int64))) (32 : Int32))), sS, sJ ((((a >>> ((32 : Int32).toInt64 &&& 63)) * (b &&& (4294967295 : Int64))) + (XT.ushrL ((a &&& (4294967295 : Int64)) * (b &&& (4294967295 : Int64))) (32 : Int32))) &&& (4294967295 : Int64)), sS, sU, sU]) rfl (zXT_lload X0.here hx rfl (hb hby d7_54) rfl (zXS_bipush X0.here hx rfl (hb hby d7_56) (zXT_lshr X0.here hx rfl (hb hby d7_58) rfl (zXT_lstore X0.here hx rfl (hb hby d7_59) rfl (l' := #[sJ a, sS, sJ b, sS, sJ (a >>> ((32 : Int32).toInt64 &&& 63)), sS, sJ (a &&& (4294967295 : Int64)), sS, sJ (b >>> ((32 : Int32).toInt64 &&& 63)), sS, sJ (b &&& (4294967295 : Int64)), sS, sJ ((a &&& (4294967295 : Int64)) * (b &&& (4294967295 : Int64))), sS, sJ (((a >>> ((32 : Int32).toInt64 &&& 63)) * (b &&& (4294967295 : Int64))) + (XT.ushrL ((a &&& (4294967295 : Int64)) * (b &&& (4294967295 : Int64))) (32 : Int32))), sS, sJ ((((a >>> ((32 : Int32).toInt64 &&& 63)) * (b &&& (4294967295 : Int64))) + (XT.ushrL ((a &&& (4294967295 : Int64)) * (b &&& (4294967295 : Int64))) (32 : Int32))) &&& (4294967295 : Int64)), sS, sJ ((((a >>> ((32 : Int32).toInt64 &&& 63)) * (b &&& (4294967295 : Int64))) + (XT.ushrL ((a &&& (4294967295 : Int64)) * (b &&& (4294967295 : Int64))) (32 : Int32))) >>> ((32 : Int32).toInt64 &&& 63)), sS]) rfl (zXT_lload X0.here hx rfl (hb hby d7_61) rfl (zXT_lload X0.here hx rfl (hb hby d7_63) rfl (zXT_lload X0.here hx rfl (hb hby d7_65) rfl (zXT_lmul X0.here hx rfl (hb hby d7_67) rfl (zXT_ladd X0.here hx rfl (hb hby d7_68) rfl (zXT_lstore X0.here hx rfl (hb hby d7_69) rfl (l' := #[sJ a, sS, sJ b, sS, sJ (a >>> ((32 : Int32).toInt64 &&& 63)), sS, sJ (a &&& (4294967295 : Int64)), sS, sJ (b >>> ((32 : Int32).toInt64 &&& 63)), sS, sJ (b &&& (4294967295 : Int64)), sS, sJ ((a &&& (4294967295 : Int64)) * (b &&& (4294967295 : Int64))), sS, sJ (((a >>> ((32 : Int32).toInt64 &&& 63)) * (b &&& (4294967295 : Int64))) + (XT.ushrL ((a &&& (4294967295 : Int64)) * (b &&& (4294967295 : Int64))) (32 : Int32))), sS, sJ (((((a >>> ((32 : Int32).toInt64 &&& 63)) * (b &&& (4294967295 : Int64))) + (XT.ushrL ((a &&& (4294967295 : Int64)) * (b &&& (4294967295 : Int64))) (32 : Int32))) &&& (4294967295 : Int64)) + ((a &&& (4294967295 : Int64)) * (b >>> ((32 : Int32).toInt64 &&& 63)))), sS, sJ ((((a >>> ((32 : Int32).toInt64 &&& 63)) * (b &&& (4294967295 : Int64))) + (XT.ushrL ((a &&& (4294967295 : Int64)) * (b &&& (4294967295 : Int64))) (32 : Int32))) >>> ((32 : Int32).toInt64 &&& 63)), sS]) rfl (zXT_lload X0.here hx rfl (hb hby d7_71) rfl (zXT_lload X0.here hx rfl (hb hby d7_73) rfl (zXT_lmul X0.here hx rfl (hb hby d7_75) rfl (zXT_lload X0.here hx rfl (hb hby d7_76) rfl hr)))))))))))))))) ?_
  refine Gl.go (fun _ hr => zXT_ladd X0.here hx rfl (hb hby d7_78) rfl (zXT_lload X0.here hx rfl (hb hby d7_79) rfl (zXS_bipush X0.here hx rfl (hb hby d7_81) (zXT_lshr X0.here hx rfl (hb hby d7_83) rfl (zXT_ladd X0.here hx rfl (hb hby d7_84) rfl hr))))) ?_
  obtain ⟨fs, hr, hrun, hended, hW, hsame⟩ := X0.leave (v := some (.long ((((a >>> ((32 : Int32).toInt64 &&& 63)) * (b >>> ((32 : Int32).toInt64 &&& 63))) + ((((a >>> ((32 : Int32).toInt64 &&& 63)) * (b &&& (4294967295 : Int64))) + (XT.ushrL ((a &&& (4294967295 : Int64)) * (b &&& (4294967295 : Int64))) (32 : Int32))) >>> ((32 : Int32).toInt64 &&& 63))) + ((((((a >>> ((32 : Int32).toInt64 &&& 63)) * (b &&& (4294967295 : Int64))) + (XT.ushrL ((a &&& (4294967295 : Int64)) * (b &&& (4294967295 : Int64))) (32 : Int32))) &&& (4294967295 : Int64)) + ((a &&& (4294967295 : Int64)) * (b >>> ((32 : Int32).toInt64 &&& 63)))) >>> ((32 : Int32).toInt64 &&& 63))))) (fun h => by rw [Bd.returns] at h; cases h)
  refine ⟨_, _, retOut X0 hx Bd.returns rfl (Or.inr (Or.inl ⟨rfl, rfl, _, rfl⟩)) (hb hby d7_85) hr, hrun, hended, _, _, rfl, ?_, ⟨⟨_, rfl⟩, hW, hsame.mono (by decide) (by decide)⟩⟩
  show Qmhm Z a b h0 n0 _ s₁.heap _
  rw [e0]
  exact ⟨rfl, N0, rfl⟩
def Qumh (Z : State) (a : Int64) (b : Int64) (h0 : Heap) (n0 : Nat) (v : Option Value) (h : Heap) (L : List Loc) : Prop := v = some (.long (fUMH a b)) ∧ Fr n0 L ∧ h = h0
theorem pn_0 : plainName "com/example/evenkeel/evenkeel/share/FlooredSum" = true := by first | (simp [plainName, overriddenIn]; done) | decide +kernel
theorem ef_umh (m : MethodId) (x0 : Int64) (x1 : Int64) : entryFrame m #[(.long x0), (.long x1)] 4 = mkF m 0 #[sJ x0, sS, sJ x1, sS] [] := by first | (simp [entryFrame, mkF, argsToLocals, Value.category]; done) | rfl
theorem d6_0 : decode prog_96_method_15_code 0 = .ok (.lload_n 0, 1) := by decide +kernel
theorem d6_1 : decode prog_96_method_15_code 1 = .ok (.lload_n 2, 1) := by decide +kernel
theorem d6_2 : decode prog_96_method_15_code 2 = .ok (.invokestatic 77, 3) := by decide +kernel
theorem pd_0 : parseMethodDescriptor "(JJ)J" = some ⟨[.long, .long], some .long⟩ := by decide +kernel
theorem d6_5 : decode prog_96_method_15_code 5 = .ok (.lload_n 0, 1) := by decide +kernel
theorem d6_6 : decode prog_96_method_15_code 6 = .ok (.bipush 63, 2) := by decide +kernel
theorem d6_8 : decode prog_96_method_15_code 8 = .ok (.lshr, 1) := by decide +kernel
theorem d6_9 : decode prog_96_method_15_code 9 = .ok (.lload_n 2, 1) := by decide +kernel
theorem d6_10 : decode prog_96_method_15_code 10 = .ok (.land, 1) := by decide +kernel
theorem d6_11 : decode prog_96_method_15_code 11 = .ok (.ladd, 1) := by decide +kernel
theorem d6_12 : decode prog_96_method_15_code 12 = .ok (.lload_n 2, 1) := by decide +kernel
theorem d6_13 : decode prog_96_method_15_code 13 = .ok (.bipush 63, 2) := by decide +kernel
theorem d6_15 : decode prog_96_method_15_code 15 = .ok (.lshr, 1) := by decide +kernel
theorem d6_16 : decode prog_96_method_15_code 16 = .ok (.lload_n 0, 1) := by decide +kernel
theorem d6_17 : decode prog_96_method_15_code 17 = .ok (.land, 1) := by decide +kernel
theorem d6_18 : decode prog_96_method_15_code 18 = .ok (.ladd, 1) := by decide +kernel
theorem d6_19 : decode prog_96_method_15_code 19 = .ok (.lreturn, 1) := by decide +kernel
set_option maxRecDepth 65536 in
set_option maxHeartbeats 40000000 in
theorem umh (l : Launch) (Z : State) (a0 : Array Value) (hw : ∀ d ∈ tables_1, d.before a0 Z = true) (ws : List Jvm.Cond) (a : Int64) (b : Int64) (h0 : Heap) (n0 : Nat) (Z0 : n0 ≤ h0.size) :
    MetFree l (⟨"com/example/evenkeel/evenkeel/share/FlooredSum", "unsignedMultiplyHigh", "(JJ)J"⟩ : MethodName) (head1 (Jvm.Cond.code (⟨"com/example/evenkeel/evenkeel/share/FlooredSum", "unsignedMultiplyHigh", "(JJ)J"⟩ : MethodName) prog_96_method_15_code 4 (some .long) :: ws) ({ frames := 1, cells := 0, slots := 0, locals := 35 } : Room)) (fun a_ U_ => a_ = #[(.long a), (.long b)] ∧ Z.Warmed39 U_.vm ∧ U_.heap = h0) (fun _ _ _ _ _ => True) (fun _ U_ o_ V_ => ∃ v_ L_, o_ = .returned v_ ∧ Qumh Z a b h0 n0 v_ V_.heap L_ ∧ FrameEnd U_ o_ V_ L_ ({ frames := 1, cells := 0, slots := 0, locals := 35 } : Room).cells ({ frames := 1, cells := 0, slots := 0, locals := 35 } : Room).slots) := by
  refine MetFree.of_bodySF (plainFor_of_name pn_0) hisR ?_
  intro p e s m args below meth c s₁ Bd hml0 hP hK
  obtain ⟨rfl, hZ, hh⟩ := hP
  have hx := Bd.exec
  have hby := Bd.bytes
  have hml : c.maxLocals = 4 := hml0
  have hown : s.vm.findClass "com/example/evenkeel/evenkeel/share/FlooredSum" = some m.cls := findClass_of_methodNamed Bd.named
  have hnm := (name_of_methodNamed Bd.named Bd.method).1
  have X0 : Stand p l e ({ frames := 1, cells := 0, slots := 0, locals := 35 } : Room) s m #[(.long a), (.long b)] below meth c s₁ [] 0 0 := Stand.of_body Bd
  have e0 : s₁.heap = h0 := by rw [← hh, Bd.state]; rfl
  have N0 := Fr.nil n0
  refine Gl.go (A := s₁.setTop (entryFrame m #[(.long a), (.long b)] 4)) (P := fun o_ U_ => ∃ v_ L_, o_ = .returned v_ ∧ Qumh Z a b h0 n0 v_ U_.heap L_ ∧ FrameEnd s o_ U_ L_ ({ frames := 1, cells := 0, slots := 0, locals := 35 } : Room).cells ({ frames := 1, cells := 0, slots := 0, locals := 35 } : Room).slots) (fun t_ k_ => castTop (ef_umh m a b) k_) ?_
  show Gl p.tables e below _ (s₁.setTop (mkF m 0 #[sJ a, sS, sJ b, sS] []))
  refine Gl.go (fun _ hr => zXT_lloadN X0.here hx rfl (hb hby d6_0) rfl (zXT_lloadN X0.here hx rfl (hb hby d6_1) rfl hr)) ?_
  have zz2 : n0 ≤ h0.size := by omega
  refine gStaticN Gl.cl (y := (⟨"java/lang/Math", "multiplyHigh", "(JJ)J"⟩ : MethodName)) (argsL := [(.long a), (.long b)]) (rest := []) (mc := 0) (ms := 0) X0 hx hZ hown (mvT hZ (hw _ (List.mem_of_getElem? (i := 42) rfl))) (mvT hZ (hw _ (List.mem_of_getElem? (i := 43) rfl))) (mvT hZ (hw _ (List.mem_of_getElem? (i := 37) rfl))) (mvT hZ (hw _ (List.mem_of_getElem? (i := 44) rfl))) (by decide) (backOf (W := 0) (mhm l Z a0 hw [] a b h0 n0 zz2 ) hZ (hw _ (List.mem_of_getElem? (i := 44) rfl)) (hw _ (List.mem_of_getElem? (i := 37) rfl)) (by decide) (by decide)) rfl (by rw [hml]; rfl) (lenOf pd_0 rfl) rfl (by show 2 * 0 + _ ≤ _; exact Nat.le_of_eq rfl) (hb hby d6_2) rfl e0 (by decide) (by decide) ?_
  intro v2 T2 Lc2 hQ2 X2
  obtain ⟨rfl, Nq2, e2⟩ := hQ2
  have N2 := Fr.app N0 Nq2
  refine Gl.go (fun _ hr => zXT_lloadN X2.here hx rfl (hb hby d6_5) rfl (zXS_bipush X2.here hx rfl (hb hby d6_6) (zXT_lshr X2.here hx rfl (hb hby d6_8) rfl (zXT_lloadN X2.here hx rfl (hb hby d6_9) rfl (zXT_land X2.here hx rfl (hb hby d6_10) rfl (zXT_ladd X2.here hx rfl (hb hby d6_11) rfl (zXT_lloadN X2.here hx rfl (hb hby d6_12) rfl (zXS_bipush X2.here hx rfl (hb hby d6_13) (zXT_lshr X2.here hx rfl (hb hby d6_15) rfl (zXT_lloadN X2.here hx rfl (hb hby d6_16) rfl (zXT_land X2.here hx rfl (hb hby d6_17) rfl (zXT_ladd X2.here hx rfl (hb hby d6_18) rfl hr)))))))))))) ?_
  obtain ⟨fs, hr, hrun, hended, hW, hsame⟩ := X2.leave (v := some (.long (((fMH a b) + ((a >>> ((63 : Int32).toInt64 &&& 63)) &&& b)) + ((b >>> ((63 : Int32).toInt64 &&& 63)) &&& a)))) (fun h => by rw [Bd.returns] at h; cases h)
  refine ⟨_, _, retOut X2 hx Bd.returns rfl (Or.inr (Or.inl ⟨rfl, rfl, _, rfl⟩)) (hb hby d6_19) hr, hrun, hended, _, _, rfl, ?_, ⟨⟨_, rfl⟩, hW, hsame.mono (by decide) (by decide)⟩⟩
  show Qumh Z a b h0 n0 _ T2.heap _
  rw [e2]
  exact ⟨rfl, N2, rfl⟩
def Qcmpm (Z : State) (a : Int64) (b : Int64) (h0 : Heap) (n0 : Nat) (v : Option Value) (h : Heap) (L : List Loc) : Prop := v = some (.int (fCmp a b)) ∧ Fr n0 L ∧ h = h0
theorem pn_1 : plainName "java/lang/Long" = true := by first | (simp [plainName, overriddenIn]; done) | decide +kernel
theorem ef_cmpm (m : MethodId) (x0 : Int64) (x1 : Int64) : entryFrame m #[(.long x0), (.long x1)] 4 = mkF m 0 #[sJ x0, sS, sJ x1, sS] [] := by first | (simp [entryFrame, mkF, argsToLocals, Value.category]; done) | rfl
theorem d9_0 : decode jdk_35_method_42_code 0 = .ok (.lload_n 0, 1) := by decide +kernel
theorem d9_1 : decode jdk_35_method_42_code 1 = .ok (.lload_n 2, 1) := by decide +kernel
theorem d9_2 : decode jdk_35_method_42_code 2 = .ok (.lcmp, 1) := by decide +kernel
theorem d9_3 : decode jdk_35_method_42_code 3 = .ok (.ifCond .ge 7, 3) := by decide +kernel
theorem d9_6 : decode jdk_35_method_42_code 6 = .ok (.iconst (-1), 1) := by decide +kernel
theorem d9_7 : decode jdk_35_method_42_code 7 = .ok (.goto 14, 3) := by decide +kernel
theorem d9_21 : decode jdk_35_method_42_code 21 = .ok (.ireturn, 1) := by decide +kernel
theorem d9_10 : decode jdk_35_method_42_code 10 = .ok (.lload_n 0, 1) := by decide +kernel
theorem d9_11 : decode jdk_35_method_42_code 11 = .ok (.lload_n 2, 1) := by decide +kernel
theorem d9_12 : decode jdk_35_method_42_code 12 = .ok (.lcmp, 1) := by decide +kernel
theorem d9_13 : decode jdk_35_method_42_code 13 = .ok (.ifCond .ne 7, 3) := by decide +kernel
theorem d9_16 : decode jdk_35_method_42_code 16 = .ok (.iconst 0, 1) := by decide +kernel
theorem d9_17 : decode jdk_35_method_42_code 17 = .ok (.goto 4, 3) := by decide +kernel
theorem d9_20 : decode jdk_35_method_42_code 20 = .ok (.iconst 1, 1) := by decide +kernel
set_option maxRecDepth 65536 in
set_option maxHeartbeats 40000000 in
theorem cmpm (l : Launch) (Z : State) (a0 : Array Value) (hw : ∀ d ∈ tables_1, d.before a0 Z = true) (ws : List Jvm.Cond) (a : Int64) (b : Int64) (h0 : Heap) (n0 : Nat) (Z0 : n0 ≤ h0.size) :
    MetFree l (⟨"java/lang/Long", "compare", "(JJ)I"⟩ : MethodName) (head1 (Jvm.Cond.code (⟨"java/lang/Long", "compare", "(JJ)I"⟩ : MethodName) jdk_35_method_42_code 4 (some .int) :: ws) ({ frames := 0, cells := 0, slots := 0, locals := 0 } : Room)) (fun a_ U_ => a_ = #[(.long a), (.long b)] ∧ Z.Warmed39 U_.vm ∧ U_.heap = h0) (fun _ _ _ _ _ => True) (fun _ U_ o_ V_ => ∃ v_ L_, o_ = .returned v_ ∧ Qcmpm Z a b h0 n0 v_ V_.heap L_ ∧ FrameEnd U_ o_ V_ L_ ({ frames := 0, cells := 0, slots := 0, locals := 0 } : Room).cells ({ frames := 0, cells := 0, slots := 0, locals := 0 } : Room).slots) := by
  refine MetFree.of_bodySF (plainFor_of_name pn_1) hisR ?_
  intro p e s m args below meth c s₁ Bd hml0 hP hK
  obtain ⟨rfl, hZ, hh⟩ := hP
  have hx := Bd.exec
  have hby := Bd.bytes
  have hml : c.maxLocals = 4 := hml0
  have hown : s.vm.findClass "java/lang/Long" = some m.cls := findClass_of_methodNamed Bd.named
  have hnm := (name_of_methodNamed Bd.named Bd.method).1
  have X0 : Stand p l e ({ frames := 0, cells := 0, slots := 0, locals := 0 } : Room) s m #[(.long a), (.long b)] below meth c s₁ [] 0 0 := Stand.of_body Bd
  have e0 : s₁.heap = h0 := by rw [← hh, Bd.state]; rfl
  have N0 := Fr.nil n0
  refine Gl.go (A := s₁.setTop (entryFrame m #[(.long a), (.long b)] 4)) (P := fun o_ U_ => ∃ v_ L_, o_ = .returned v_ ∧ Qcmpm Z a b h0 n0 v_ U_.heap L_ ∧ FrameEnd s o_ U_ L_ ({ frames := 0, cells := 0, slots := 0, locals := 0 } : Room).cells ({ frames := 0, cells := 0, slots := 0, locals := 0 } : Room).slots) (fun t_ k_ => castTop (ef_cmpm m a b) k_) ?_
  show Gl p.tables e below _ (s₁.setTop (mkF m 0 #[sJ a, sS, sJ b, sS] []))
  refine Gl.go (fun _ hr => zXT_lloadN X0.here hx rfl (hb hby d9_0) rfl (zXT_lloadN X0.here hx rfl (hb hby d9_1) rfl (zXT_lcmp X0.here hx rfl (hb hby d9_2) rfl hr))) ?_
  by_cases hc3 : a < b
  · refine Gl.go (fun _ hr => zXS_ifNo X0.here hx rfl (hb hby d9_3) rfl (XT.ll_ge_f hc3) (zXS_iconst X0.here hx rfl (hb hby d9_6) (zXS_goto X0.here hx rfl (pc0 := 7) (pc' := 21) rfl (hb hby d9_7) (by decide) (by decide) hr))) ?_
    obtain ⟨fs, hr, hrun, hended, hW, hsame⟩ := X0.leave (v := some (.int (-1 : Int32))) (fun h => by rw [Bd.returns] at h; cases h)
    refine ⟨_, _, retOut X0 hx Bd.returns rfl (Or.inl ⟨rfl, Or.inl rfl, _, rfl⟩) (hb hby d9_21) hr, hrun, hended, _, _, rfl, ?_, ⟨⟨_, rfl⟩, hW, hsame.mono (by decide) (by decide)⟩⟩
    show Qcmpm Z a b h0 n0 _ s₁.heap _
    rw [e0]
    exact ⟨(by rw [fCmp, if_pos hc3]), N0, rfl⟩
  · refine Gl.go (fun _ hr => zXS_ifYes X0.here hx rfl (pc0 := 3) (pc' := 10) rfl (hb hby d9_3) rfl (XT.ll_ge_t hc3) (by decide) (by decide) (zXT_lloadN X0.here hx rfl (hb hby d9_10) rfl (zXT_lloadN X0.here hx rfl (hb hby d9_11) rfl (zXT_lcmp X0.here hx rfl (hb hby d9_12) rfl hr)))) ?_
    by_cases hc4 : a = b
    · refine Gl.go (fun _ hr => zXS_ifNo X0.here hx rfl (hb hby d9_13) rfl (XT.ll_ne_f hc4) (zXS_iconst X0.here hx rfl (hb hby d9_16) (zXS_goto X0.here hx rfl (pc0 := 17) (pc' := 21) rfl (hb hby d9_17) (by decide) (by decide) hr))) ?_
      obtain ⟨fs, hr, hrun, hended, hW, hsame⟩ := X0.leave (v := some (.int (0 : Int32))) (fun h => by rw [Bd.returns] at h; cases h)
      refine ⟨_, _, retOut X0 hx Bd.returns rfl (Or.inl ⟨rfl, Or.inl rfl, _, rfl⟩) (hb hby d9_21) hr, hrun, hended, _, _, rfl, ?_, ⟨⟨_, rfl⟩, hW, hsame.mono (by decide) (by decide)⟩⟩
      show Qcmpm Z a b h0 n0 _ s₁.heap _
      rw [e0]
      exact ⟨(by rw [fCmp, if_neg hc3, if_pos hc4]), N0, rfl⟩
    · refine Gl.go (fun _ hr => zXS_ifYes X0.here hx rfl (pc0 := 13) (pc' := 20) rfl (hb hby d9_13) rfl (XT.ll_ne_t hc4) (by decide) (by decide) (zXS_iconst X0.here hx rfl (hb hby d9_20) hr)) ?_
      obtain ⟨fs, hr, hrun, hended, hW, hsame⟩ := X0.leave (v := some (.int (1 : Int32))) (fun h => by rw [Bd.returns] at h; cases h)
      refine ⟨_, _, retOut X0 hx Bd.returns rfl (Or.inl ⟨rfl, Or.inl rfl, _, rfl⟩) (hb hby d9_21) hr, hrun, hended, _, _, rfl, ?_, ⟨⟨_, rfl⟩, hW, hsame.mono (by decide) (by decide)⟩⟩
      show Qcmpm Z a b h0 n0 _ s₁.heap _
      rw [e0]
      exact ⟨(by rw [fCmp, if_neg hc3, if_neg hc4]), N0, rfl⟩
def Qcum (Z : State) (a : Int64) (b : Int64) (h0 : Heap) (n0 : Nat) (v : Option Value) (h : Heap) (L : List Loc) : Prop := v = some (.int (cu a b)) ∧ Fr n0 L ∧ h = h0
theorem ef_cum (m : MethodId) (x0 : Int64) (x1 : Int64) : entryFrame m #[(.long x0), (.long x1)] 4 = mkF m 0 #[sJ x0, sS, sJ x1, sS] [] := by first | (simp [entryFrame, mkF, argsToLocals, Value.category]; done) | rfl
theorem d8_0 : decode jdk_35_method_43_code 0 = .ok (.lload_n 0, 1) := by decide +kernel
theorem d8_1 : decode jdk_35_method_43_code 1 = .ok (.ldc2_w 168, 3) := by decide +kernel
theorem d8_4 : decode jdk_35_method_43_code 4 = .ok (.ladd, 1) := by decide +kernel
theorem d8_5 : decode jdk_35_method_43_code 5 = .ok (.lload_n 2, 1) := by decide +kernel
theorem d8_6 : decode jdk_35_method_43_code 6 = .ok (.ldc2_w 168, 3) := by decide +kernel
theorem d8_9 : decode jdk_35_method_43_code 9 = .ok (.ladd, 1) := by decide +kernel
theorem d8_10 : decode jdk_35_method_43_code 10 = .ok (.invokestatic 302, 3) := by decide +kernel
theorem pd_1 : parseMethodDescriptor "(JJ)I" = some ⟨[.long, .long], some .int⟩ := by decide +kernel
theorem d8_13 : decode jdk_35_method_43_code 13 = .ok (.ireturn, 1) := by decide +kernel
set_option maxRecDepth 65536 in
set_option maxHeartbeats 40000000 in
theorem cum (l : Launch) (Z : State) (a0 : Array Value) (hw : ∀ d ∈ tables_1, d.before a0 Z = true) (ws : List Jvm.Cond) (a : Int64) (b : Int64) (h0 : Heap) (n0 : Nat) (Z0 : n0 ≤ h0.size) :
    MetFree l (⟨"java/lang/Long", "compareUnsigned", "(JJ)I"⟩ : MethodName) (head1 (Jvm.Cond.code (⟨"java/lang/Long", "compareUnsigned", "(JJ)I"⟩ : MethodName) jdk_35_method_43_code 4 (some .int) :: ws) ({ frames := 1, cells := 0, slots := 0, locals := 15 } : Room)) (fun a_ U_ => a_ = #[(.long a), (.long b)] ∧ Z.Warmed39 U_.vm ∧ U_.heap = h0) (fun _ _ _ _ _ => True) (fun _ U_ o_ V_ => ∃ v_ L_, o_ = .returned v_ ∧ Qcum Z a b h0 n0 v_ V_.heap L_ ∧ FrameEnd U_ o_ V_ L_ ({ frames := 1, cells := 0, slots := 0, locals := 15 } : Room).cells ({ frames := 1, cells := 0, slots := 0, locals := 15 } : Room).slots) := by
  refine MetFree.of_bodySF (plainFor_of_name pn_1) hisR ?_
  intro p e s m args below meth c s₁ Bd hml0 hP hK
  obtain ⟨rfl, hZ, hh⟩ := hP
  have hx := Bd.exec
  have hby := Bd.bytes
  have hml : c.maxLocals = 4 := hml0
  have hown : s.vm.findClass "java/lang/Long" = some m.cls := findClass_of_methodNamed Bd.named
  have hnm := (name_of_methodNamed Bd.named Bd.method).1
  have X0 : Stand p l e ({ frames := 1, cells := 0, slots := 0, locals := 15 } : Room) s m #[(.long a), (.long b)] below meth c s₁ [] 0 0 := Stand.of_body Bd
  have e0 : s₁.heap = h0 := by rw [← hh, Bd.state]; rfl
  have N0 := Fr.nil n0
  refine Gl.go (A := s₁.setTop (entryFrame m #[(.long a), (.long b)] 4)) (P := fun o_ U_ => ∃ v_ L_, o_ = .returned v_ ∧ Qcum Z a b h0 n0 v_ U_.heap L_ ∧ FrameEnd s o_ U_ L_ ({ frames := 1, cells := 0, slots := 0, locals := 15 } : Room).cells ({ frames := 1, cells := 0, slots := 0, locals := 15 } : Room).slots) (fun t_ k_ => castTop (ef_cum m a b) k_) ?_
  show Gl p.tables e below _ (s₁.setTop (mkF m 0 #[sJ a, sS, sJ b, sS] []))
  refine Gl.go (fun _ hr => zXT_lloadN X0.here hx rfl (hb hby d8_0) rfl hr) ?_
  refine Gl.go (X0.ldc2Long hx hown (mvT hZ (hw _ (List.mem_of_getElem? (i := 50) rfl))) rfl (hb hby d8_1)) ?_
  refine Gl.go (fun _ hr => zXT_ladd X0.here hx rfl (hb hby d8_4) rfl (zXT_lloadN X0.here hx rfl (hb hby d8_5) rfl hr)) ?_
  refine Gl.go (X0.ldc2Long hx hown (mvT hZ (hw _ (List.mem_of_getElem? (i := 50) rfl))) rfl (hb hby d8_6)) ?_
  refine Gl.go (fun _ hr => zXT_ladd X0.here hx rfl (hb hby d8_9) rfl hr) ?_
  have zz5 : n0 ≤ h0.size := by omega
  refine gStaticN Gl.cl (y := (⟨"java/lang/Long", "compare", "(JJ)I"⟩ : MethodName)) (argsL := [(.long (a + (-9223372036854775808 : Int64))), (.long (b + (-9223372036854775808 : Int64)))]) (rest := []) (mc := 0) (ms := 0) X0 hx hZ hown (mvT hZ (hw _ (List.mem_of_getElem? (i := 51) rfl))) (mvT hZ (hw _ (List.mem_of_getElem? (i := 52) rfl))) (mvT hZ (hw _ (List.mem_of_getElem? (i := 48) rfl))) (mvT hZ (hw _ (List.mem_of_getElem? (i := 53) rfl))) (by decide) (backOf (W := 0) (cmpm l Z a0 hw [] (a + (-9223372036854775808 : Int64)) (b + (-9223372036854775808 : Int64)) h0 n0 zz5 ) hZ (hw _ (List.mem_of_getElem? (i := 53) rfl)) (hw _ (List.mem_of_getElem? (i := 48) rfl)) (by decide) (by decide)) rfl (by rw [hml]; rfl) (lenOf pd_1 rfl) rfl (by show 2 * 0 + _ ≤ _; exact Nat.le_of_eq rfl) (hb hby d8_10) rfl e0 (by decide) (by decide) ?_
  intro v5 T5 Lc5 hQ5 X5
  obtain ⟨rfl, Nq5, e5⟩ := hQ5
  have N5 := Fr.app N0 Nq5
  obtain ⟨fs, hr, hrun, hended, hW, hsame⟩ := X5.leave (v := some (.int (fCmp (a + (-9223372036854775808 : Int64)) (b + (-9223372036854775808 : Int64))))) (fun h => by rw [Bd.returns] at h; cases h)
  refine ⟨_, _, retOut X5 hx Bd.returns rfl (Or.inl ⟨rfl, Or.inl rfl, _, rfl⟩) (hb hby d8_13) hr, hrun, hended, _, _, rfl, ?_, ⟨⟨_, rfl⟩, hW, hsame.mono (by decide) (by decide)⟩⟩
  show Qcum Z a b h0 n0 _ T5.heap _
  rw [e5]
  exact ⟨rfl, N5, rfl⟩
def Qnlzi (Z : State) (a : Int32) (h0 : Heap) (n0 : Nat) (v : Option Value) (h : Heap) (L : List Loc) : Prop := ∃ (r : Int32), v = some (.int r) ∧ Fr n0 L ∧ h = h0 ∧ (0 ≤ r.toInt ∧ r.toInt ≤ 32)
theorem pn_2 : plainName "java/lang/Integer" = true := by first | (simp [plainName, overriddenIn]; done) | decide +kernel
theorem ef_nlzi (m : MethodId) (x0 : Int32) : entryFrame m #[(.int x0)] 2 = mkF m 0 #[sI x0, sU] [] := by first | (simp [entryFrame, mkF, argsToLocals, Value.category]; done) | rfl
theorem d11_0 : decode jdk_33_method_47_code 0 = .ok (.iload_n 0, 1) := by decide +kernel
theorem d11_1 : decode jdk_33_method_47_code 1 = .ok (.ifCond .gt 14, 3) := by decide +kernel
theorem d11_15 : decode jdk_33_method_47_code 15 = .ok (.bipush 31, 2) := by decide +kernel
theorem d11_17 : decode jdk_33_method_47_code 17 = .ok (.istore_n 1, 1) := by decide +kernel
theorem d11_18 : decode jdk_33_method_47_code 18 = .ok (.iload_n 0, 1) := by decide +kernel
theorem d11_19 : decode jdk_33_method_47_code 19 = .ok (.ldc_w 264, 3) := by decide +kernel
theorem d11_22 : decode jdk_33_method_47_code 22 = .ok (.if_icmp .lt 11, 3) := by decide +kernel
theorem d11_33 : decode jdk_33_method_47_code 33 = .ok (.iload_n 0, 1) := by decide +kernel
theorem d11_34 : decode jdk_33_method_47_code 34 = .ok (.sipush 256, 3) := by decide +kernel
theorem d11_37 : decode jdk_33_method_47_code 37 = .ok (.if_icmp .lt 11, 3) := by decide +kernel
theorem d11_48 : decode jdk_33_method_47_code 48 = .ok (.iload_n 0, 1) := by decide +kernel
theorem d11_49 : decode jdk_33_method_47_code 49 = .ok (.bipush 16, 2) := by decide +kernel
theorem d11_51 : decode jdk_33_method_47_code 51 = .ok (.if_icmp .lt 10, 3) := by decide +kernel
theorem d11_61 : decode jdk_33_method_47_code 61 = .ok (.iload_n 0, 1) := by decide +kernel
theorem d11_62 : decode jdk_33_method_47_code 62 = .ok (.iconst 4, 1) := by decide +kernel
theorem d11_63 : decode jdk_33_method_47_code 63 = .ok (.if_icmp .lt 10, 3) := by decide +kernel
theorem d11_73 : decode jdk_33_method_47_code 73 = .ok (.iload_n 1, 1) := by decide +kernel
theorem d11_74 : decode jdk_33_method_47_code 74 = .ok (.iload_n 0, 1) := by decide +kernel
theorem d11_75 : decode jdk_33_method_47_code 75 = .ok (.iconst 1, 1) := by decide +kernel
theorem d11_76 : decode jdk_33_method_47_code 76 = .ok (.iushr, 1) := by decide +kernel
theorem d11_77 : decode jdk_33_method_47_code 77 = .ok (.isub, 1) := by decide +kernel
theorem d11_78 : decode jdk_33_method_47_code 78 = .ok (.ireturn, 1) := by decide +kernel
theorem d11_66 : decode jdk_33_method_47_code 66 = .ok (.iinc 1 (-2), 3) := by decide +kernel
theorem d11_69 : decode jdk_33_method_47_code 69 = .ok (.iload_n 0, 1) := by decide +kernel
theorem d11_70 : decode jdk_33_method_47_code 70 = .ok (.iconst 2, 1) := by decide +kernel
theorem d11_71 : decode jdk_33_method_47_code 71 = .ok (.iushr, 1) := by decide +kernel
theorem d11_72 : decode jdk_33_method_47_code 72 = .ok (.istore_n 0, 1) := by decide +kernel
theorem d11_54 : decode jdk_33_method_47_code 54 = .ok (.iinc 1 (-4), 3) := by decide +kernel
theorem d11_57 : decode jdk_33_method_47_code 57 = .ok (.iload_n 0, 1) := by decide +kernel
theorem d11_58 : decode jdk_33_method_47_code 58 = .ok (.iconst 4, 1) := by decide +kernel
theorem d11_59 : decode jdk_33_method_47_code 59 = .ok (.iushr, 1) := by decide +kernel
theorem d11_60 : decode jdk_33_method_47_code 60 = .ok (.istore_n 0, 1) := by decide +kernel
theorem d11_40 : decode jdk_33_method_47_code 40 = .ok (.iinc 1 (-8), 3) := by decide +kernel
theorem d11_43 : decode jdk_33_method_47_code 43 = .ok (.iload_n 0, 1) := by decide +kernel
theorem d11_44 : decode jdk_33_method_47_code 44 = .ok (.bipush 8, 2) := by decide +kernel
theorem d11_46 : decode jdk_33_method_47_code 46 = .ok (.iushr, 1) := by decide +kernel
theorem d11_47 : decode jdk_33_method_47_code 47 = .ok (.istore_n 0, 1) := by decide +kernel
theorem d11_25 : decode jdk_33_method_47_code 25 = .ok (.iinc 1 (-16), 3) := by decide +kernel
theorem d11_28 : decode jdk_33_method_47_code 28 = .ok (.iload_n 0, 1) := by decide +kernel
theorem d11_29 : decode jdk_33_method_47_code 29 = .ok (.bipush 16, 2) := by decide +kernel
theorem d11_31 : decode jdk_33_method_47_code 31 = .ok (.iushr, 1) := by decide +kernel
theorem d11_32 : decode jdk_33_method_47_code 32 = .ok (.istore_n 0, 1) := by decide +kernel
theorem d11_4 : decode jdk_33_method_47_code 4 = .ok (.iload_n 0, 1) := by decide +kernel
theorem d11_5 : decode jdk_33_method_47_code 5 = .ok (.ifCond .ne 8, 3) := by decide +kernel
theorem d11_8 : decode jdk_33_method_47_code 8 = .ok (.bipush 32, 2) := by decide +kernel
theorem d11_10 : decode jdk_33_method_47_code 10 = .ok (.goto 4, 3) := by decide +kernel
theorem d11_14 : decode jdk_33_method_47_code 14 = .ok (.ireturn, 1) := by decide +kernel
theorem d11_13 : decode jdk_33_method_47_code 13 = .ok (.iconst 0, 1) := by decide +kernel
set_option maxRecDepth 65536 in
set_option maxHeartbeats 40000000 in
theorem nlzi (l : Launch) (Z : State) (a0 : Array Value) (hw : ∀ d ∈ tables_1, d.before a0 Z = true) (ws : List Jvm.Cond) (a : Int32) (h0 : Heap) (n0 : Nat) (Z0 : n0 ≤ h0.size) :
    MetFree l (⟨"java/lang/Integer", "numberOfLeadingZeros", "(I)I"⟩ : MethodName) (head1 (Jvm.Cond.code (⟨"java/lang/Integer", "numberOfLeadingZeros", "(I)I"⟩ : MethodName) jdk_33_method_47_code 2 (some .int) :: ws) ({ frames := 0, cells := 0, slots := 0, locals := 0 } : Room)) (fun a_ U_ => a_ = #[(.int a)] ∧ Z.Warmed39 U_.vm ∧ U_.heap = h0) (fun _ _ _ _ _ => True) (fun _ U_ o_ V_ => ∃ v_ L_, o_ = .returned v_ ∧ Qnlzi Z a h0 n0 v_ V_.heap L_ ∧ FrameEnd U_ o_ V_ L_ ({ frames := 0, cells := 0, slots := 0, locals := 0 } : Room).cells ({ frames := 0, cells := 0, slots := 0, locals := 0 } : Room).slots) := by
  refine MetFree.of_bodySF (plainFor_of_name pn_2) hisR ?_
  intro p e s m args below meth c s₁ Bd hml0 hP hK
  obtain ⟨rfl, hZ, hh⟩ := hP
  have hx := Bd.exec
  have hby := Bd.bytes
  have hml : c.maxLocals = 2 := hml0
  have hown : s.vm.findClass "java/lang/Integer" = some m.cls := findClass_of_methodNamed Bd.named
  have hnm := (name_of_methodNamed Bd.named Bd.method).1
  have X0 : Stand p l e ({ frames := 0, cells := 0, slots := 0, locals := 0 } : Room) s m #[(.int a)] below meth c s₁ [] 0 0 := Stand.of_body Bd
  have e0 : s₁.heap = h0 := by rw [← hh, Bd.state]; rfl
  have N0 := Fr.nil n0
  refine Gl.go (A := s₁.setTop (entryFrame m #[(.int a)] 2)) (P := fun o_ U_ => ∃ v_ L_, o_ = .returned v_ ∧ Qnlzi Z a h0 n0 v_ U_.heap L_ ∧ FrameEnd s o_ U_ L_ ({ frames := 0, cells := 0, slots := 0, locals := 0 } : Room).cells ({ frames := 0, cells := 0, slots := 0, locals := 0 } : Room).slots) (fun t_ k_ => castTop (ef_nlzi m a) k_) ?_
  show Gl p.tables e below _ (s₁.setTop (mkF m 0 #[sI a, sU] []))
  refine Gl.go (fun _ hr => zXS_iloadN X0.here hx rfl (hb hby d11_0) rfl hr) ?_
  by_cases hc6 : (0 : Int32) < a
  · refine Gl.go (fun _ hr => zXS_ifYes X0.here hx rfl (pc0 := 1) (pc' := 15) rfl (hb hby d11_1) rfl (XT.i0_gt_t hc6) (by decide) (by decide) (zXS_bipush X0.here hx rfl (hb hby d11_15) (zXS_istoreN X0.here hx rfl (hb hby d11_17) rfl (l' := #[sI a, sI 31]) rfl hr))) ?_
    have b0 : 0 ≤ a.toInt ∧ a.toInt < 2147483648 := own_pos hc6
    refine Gl.go (fun _ hr => zXS_iloadN X0.here hx rfl (hb hby d11_18) rfl hr) ?_
    refine Gl.go (X0.ldcwInt hx hown (mvT hZ (hw _ (List.mem_of_getElem? (i := 68) rfl))) rfl (hb hby d11_19)) ?_
    by_cases hc7 : a < (65536 : Int32)
    · refine Gl.go (fun _ hr => zXS_icmpYes X0.here hx rfl (pc0 := 22) (pc' := 33) rfl (hb hby d11_22) rfl (XT.ii_lt_t hc7) (by decide) (by decide) hr) ?_
      have b8 : 0 ≤ a.toInt ∧ a.toInt < 65536 := own_kp b0 rfl hc7
      refine Gl.go (fun _ hr => zXS_iloadN X0.here hx rfl (hb hby d11_33) rfl (zXS_sipush X0.here hx rfl (hb hby d11_34) hr)) ?_
      by_cases hc9 : a < (256 : Int32)
      · refine Gl.go (fun _ hr => zXS_icmpYes X0.here hx rfl (pc0 := 37) (pc' := 48) rfl (hb hby d11_37) rfl (XT.ii_lt_t hc9) (by decide) (by decide) hr) ?_
        have b10 : 0 ≤ a.toInt ∧ a.toInt < 256 := own_kp b8 rfl hc9
        refine Gl.go (fun _ hr => zXS_iloadN X0.here hx rfl (hb hby d11_48) rfl (zXS_bipush X0.here hx rfl (hb hby d11_49) hr)) ?_
        by_cases hc11 : a < (16 : Int32)
        · refine Gl.go (fun _ hr => zXS_icmpYes X0.here hx rfl (pc0 := 51) (pc' := 61) rfl (hb hby d11_51) rfl (XT.ii_lt_t hc11) (by decide) (by decide) hr) ?_
          have b12 : 0 ≤ a.toInt ∧ a.toInt < 16 := own_kp b10 rfl hc11
          refine Gl.go (fun _ hr => zXS_iloadN X0.here hx rfl (hb hby d11_61) rfl (zXS_iconst X0.here hx rfl (hb hby d11_62) hr)) ?_
          by_cases hc13 : a < (4 : Int32)
          · refine Gl.go (fun _ hr => zXS_icmpYes X0.here hx rfl (pc0 := 63) (pc' := 73) rfl (hb hby d11_63) rfl (XT.ii_lt_t hc13) (by decide) (by decide) hr) ?_
            have b14 : 0 ≤ a.toInt ∧ a.toInt < 4 := own_kp b12 rfl hc13
            refine Gl.go (fun _ hr => zXS_iloadN X0.here hx rfl (hb hby d11_73) rfl (zXS_iloadN X0.here hx rfl (hb hby d11_74) rfl (zXS_iconst X0.here hx rfl (hb hby d11_75) (zXT_iushr X0.here hx rfl (hb hby d11_76) rfl (zXS_isub X0.here hx rfl (hb hby d11_77) rfl hr))))) ?_
            obtain ⟨fs, hr, hrun, hended, hW, hsame⟩ := X0.leave (v := some (.int ((31 : Int32) - (XT.ushr a (1 : Int32))))) (fun h => by rw [Bd.returns] at h; cases h)
            refine ⟨_, _, retOut X0 hx Bd.returns rfl (Or.inl ⟨rfl, Or.inl rfl, _, rfl⟩) (hb hby d11_78) hr, hrun, hended, _, _, rfl, ?_, ⟨⟨_, rfl⟩, hW, hsame.mono (by decide) (by decide)⟩⟩
            show Qnlzi Z a h0 n0 _ s₁.heap _
            rw [e0]
            exact ⟨((31 : Int32) - (XT.ushr a (1 : Int32))), rfl, N0, rfl, (own_last (by decide) (by decide) b14)⟩
          · refine Gl.go (fun _ hr => zXS_icmpNo X0.here hx rfl (hb hby d11_63) rfl (XT.ii_lt_f hc13) (zXS_iinc X0.here hx rfl (hb hby d11_66) rfl (l' := #[sI a, sI 29]) rfl (zXS_iloadN X0.here hx rfl (hb hby d11_69) rfl (zXS_iconst X0.here hx rfl (hb hby d11_70) (zXT_iushr X0.here hx rfl (hb hby d11_71) rfl (zXS_istoreN X0.here hx rfl (hb hby d11_72) rfl (l' := #[sI (XT.ushr a (2 : Int32)), sI 29]) rfl hr)))))) ?_
            have b15 : 0 ≤ (XT.ushr a (2 : Int32)).toInt ∧ (XT.ushr a (2 : Int32)).toInt < 4 := own_shr2 (B := 4) b12.1 (Int.lt_of_lt_of_le b12.2 (by decide))
            refine Gl.go (fun _ hr => zXS_iloadN X0.here hx rfl (hb hby d11_73) rfl (zXS_iloadN X0.here hx rfl (hb hby d11_74) rfl (zXS_iconst X0.here hx rfl (hb hby d11_75) (zXT_iushr X0.here hx rfl (hb hby d11_76) rfl (zXS_isub X0.here hx rfl (hb hby d11_77) rfl hr))))) ?_
            obtain ⟨fs, hr, hrun, hended, hW, hsame⟩ := X0.leave (v := some (.int ((29 : Int32) - (XT.ushr (XT.ushr a (2 : Int32)) (1 : Int32))))) (fun h => by rw [Bd.returns] at h; cases h)
            refine ⟨_, _, retOut X0 hx Bd.returns rfl (Or.inl ⟨rfl, Or.inl rfl, _, rfl⟩) (hb hby d11_78) hr, hrun, hended, _, _, rfl, ?_, ⟨⟨_, rfl⟩, hW, hsame.mono (by decide) (by decide)⟩⟩
            show Qnlzi Z a h0 n0 _ s₁.heap _
            rw [e0]
            exact ⟨((29 : Int32) - (XT.ushr (XT.ushr a (2 : Int32)) (1 : Int32))), rfl, N0, rfl, (own_last (by decide) (by decide) b15)⟩
        · refine Gl.go (fun _ hr => zXS_icmpNo X0.here hx rfl (hb hby d11_51) rfl (XT.ii_lt_f hc11) (zXS_iinc X0.here hx rfl (hb hby d11_54) rfl (l' := #[sI a, sI 27]) rfl (zXS_iloadN X0.here hx rfl (hb hby d11_57) rfl (zXS_iconst X0.here hx rfl (hb hby d11_58) (zXT_iushr X0.here hx rfl (hb hby d11_59) rfl (zXS_istoreN X0.here hx rfl (hb hby d11_60) rfl (l' := #[sI (XT.ushr a (4 : Int32)), sI 27]) rfl hr)))))) ?_
          have b16 : 0 ≤ (XT.ushr a (4 : Int32)).toInt ∧ (XT.ushr a (4 : Int32)).toInt < 16 := own_shr4 (B := 16) b10.1 (Int.lt_of_lt_of_le b10.2 (by decide))
          refine Gl.go (fun _ hr => zXS_iloadN X0.here hx rfl (hb hby d11_61) rfl (zXS_iconst X0.here hx rfl (hb hby d11_62) hr)) ?_
          by_cases hc17 : (XT.ushr a (4 : Int32)) < (4 : Int32)
          · refine Gl.go (fun _ hr => zXS_icmpYes X0.here hx rfl (pc0 := 63) (pc' := 73) rfl (hb hby d11_63) rfl (XT.ii_lt_t hc17) (by decide) (by decide) hr) ?_
            have b18 : 0 ≤ (XT.ushr a (4 : Int32)).toInt ∧ (XT.ushr a (4 : Int32)).toInt < 4 := own_kp b16 rfl hc17
            refine Gl.go (fun _ hr => zXS_iloadN X0.here hx rfl (hb hby d11_73) rfl (zXS_iloadN X0.here hx rfl (hb hby d11_74) rfl (zXS_iconst X0.here hx rfl (hb hby d11_75) (zXT_iushr X0.here hx rfl (hb hby d11_76) rfl (zXS_isub X0.here hx rfl (hb hby d11_77) rfl hr))))) ?_
            obtain ⟨fs, hr, hrun, hended, hW, hsame⟩ := X0.leave (v := some (.int ((27 : Int32) - (XT.ushr (XT.ushr a (4 : Int32)) (1 : Int32))))) (fun h => by rw [Bd.returns] at h; cases h)
            refine ⟨_, _, retOut X0 hx Bd.returns rfl (Or.inl ⟨rfl, Or.inl rfl, _, rfl⟩) (hb hby d11_78) hr, hrun, hended, _, _, rfl, ?_, ⟨⟨_, rfl⟩, hW, hsame.mono (by decide) (by decide)⟩⟩
            show Qnlzi Z a h0 n0 _ s₁.heap _
            rw [e0]
            exact ⟨((27 : Int32) - (XT.ushr (XT.ushr a (4 : Int32)) (1 : Int32))), rfl, N0, rfl, (own_last (by decide) (by decide) b18)⟩
          · refine Gl.go (fun _ hr => zXS_icmpNo X0.here hx rfl (hb hby d11_63) rfl (XT.ii_lt_f hc17) (zXS_iinc X0.here hx rfl (hb hby d11_66) rfl (l' := #[sI (XT.ushr a (4 : Int32)), sI 25]) rfl (zXS_iloadN X0.here hx rfl (hb hby d11_69) rfl (zXS_iconst X0.here hx rfl (hb hby d11_70) (zXT_iushr X0.here hx rfl (hb hby d11_71) rfl (zXS_istoreN X0.here hx rfl (hb hby d11_72) rfl (l' := #[sI (XT.ushr (XT.ushr a (4 : Int32)) (2 : Int32)), sI 25]) rfl hr)))))) ?_
            have b19 : 0 ≤ (XT.ushr (XT.ushr a (4 : Int32)) (2 : Int32)).toInt ∧ (XT.ushr (XT.ushr a (4 : Int32)) (2 : Int32)).toInt < 4 := own_shr2 (B := 4) b16.1 (Int.lt_of_lt_of_le b16.2 (by decide))
            refine Gl.go (fun _ hr => zXS_iloadN X0.here hx rfl (hb hby d11_73) rfl (zXS_iloadN X0.here hx rfl (hb hby d11_74) rfl (zXS_iconst X0.here hx rfl (hb hby d11_75) (zXT_iushr X0.here hx rfl (hb hby d11_76) rfl (zXS_isub X0.here hx rfl (hb hby d11_77) rfl hr))))) ?_
            obtain ⟨fs, hr, hrun, hended, hW, hsame⟩ := X0.leave (v := some (.int ((25 : Int32) - (XT.ushr (XT.ushr (XT.ushr a (4 : Int32)) (2 : Int32)) (1 : Int32))))) (fun h => by rw [Bd.returns] at h; cases h)
            refine ⟨_, _, retOut X0 hx Bd.returns rfl (Or.inl ⟨rfl, Or.inl rfl, _, rfl⟩) (hb hby d11_78) hr, hrun, hended, _, _, rfl, ?_, ⟨⟨_, rfl⟩, hW, hsame.mono (by decide) (by decide)⟩⟩
            show Qnlzi Z a h0 n0 _ s₁.heap _
            rw [e0]
            exact ⟨((25 : Int32) - (XT.ushr (XT.ushr (XT.ushr a (4 : Int32)) (2 : Int32)) (1 : Int32))), rfl, N0, rfl, (own_last (by decide) (by decide) b19)⟩
      · refine Gl.go (fun _ hr => zXS_icmpNo X0.here hx rfl (hb hby d11_37) rfl (XT.ii_lt_f hc9) (zXS_iinc X0.here hx rfl (hb hby d11_40) rfl (l' := #[sI a, sI 23]) rfl (zXS_iloadN X0.here hx rfl (hb hby d11_43) rfl (zXS_bipush X0.here hx rfl (hb hby d11_44) (zXT_iushr X0.here hx rfl (hb hby d11_46) rfl (zXS_istoreN X0.here hx rfl (hb hby d11_47) rfl (l' := #[sI (XT.ushr a (8 : Int32)), sI 23]) rfl hr)))))) ?_
        have b20 : 0 ≤ (XT.ushr a (8 : Int32)).toInt ∧ (XT.ushr a (8 : Int32)).toInt < 256 := own_shr8 (B := 256) b8.1 (Int.lt_of_lt_of_le b8.2 (by decide))
        refine Gl.go (fun _ hr => zXS_iloadN X0.here hx rfl (hb hby d11_48) rfl (zXS_bipush X0.here hx rfl (hb hby d11_49) hr)) ?_
        by_cases hc21 : (XT.ushr a (8 : Int32)) < (16 : Int32)
        · refine Gl.go (fun _ hr => zXS_icmpYes X0.here hx rfl (pc0 := 51) (pc' := 61) rfl (hb hby d11_51) rfl (XT.ii_lt_t hc21) (by decide) (by decide) hr) ?_
          have b22 : 0 ≤ (XT.ushr a (8 : Int32)).toInt ∧ (XT.ushr a (8 : Int32)).toInt < 16 := own_kp b20 rfl hc21
          refine Gl.go (fun _ hr => zXS_iloadN X0.here hx rfl (hb hby d11_61) rfl (zXS_iconst X0.here hx rfl (hb hby d11_62) hr)) ?_
          by_cases hc23 : (XT.ushr a (8 : Int32)) < (4 : Int32)
          · refine Gl.go (fun _ hr => zXS_icmpYes X0.here hx rfl (pc0 := 63) (pc' := 73) rfl (hb hby d11_63) rfl (XT.ii_lt_t hc23) (by decide) (by decide) hr) ?_
            have b24 : 0 ≤ (XT.ushr a (8 : Int32)).toInt ∧ (XT.ushr a (8 : Int32)).toInt < 4 := own_kp b22 rfl hc23
            refine Gl.go (fun _ hr => zXS_iloadN X0.here hx rfl (hb hby d11_73) rfl (zXS_iloadN X0.here hx rfl (hb hby d11_74) rfl (zXS_iconst X0.here hx rfl (hb hby d11_75) (zXT_iushr X0.here hx rfl (hb hby d11_76) rfl (zXS_isub X0.here hx rfl (hb hby d11_77) rfl hr))))) ?_
            obtain ⟨fs, hr, hrun, hended, hW, hsame⟩ := X0.leave (v := some (.int ((23 : Int32) - (XT.ushr (XT.ushr a (8 : Int32)) (1 : Int32))))) (fun h => by rw [Bd.returns] at h; cases h)
            refine ⟨_, _, retOut X0 hx Bd.returns rfl (Or.inl ⟨rfl, Or.inl rfl, _, rfl⟩) (hb hby d11_78) hr, hrun, hended, _, _, rfl, ?_, ⟨⟨_, rfl⟩, hW, hsame.mono (by decide) (by decide)⟩⟩
            show Qnlzi Z a h0 n0 _ s₁.heap _
            rw [e0]
            exact ⟨((23 : Int32) - (XT.ushr (XT.ushr a (8 : Int32)) (1 : Int32))), rfl, N0, rfl, (own_last (by decide) (by decide) b24)⟩
          · refine Gl.go (fun _ hr => zXS_icmpNo X0.here hx rfl (hb hby d11_63) rfl (XT.ii_lt_f hc23) (zXS_iinc X0.here hx rfl (hb hby d11_66) rfl (l' := #[sI (XT.ushr a (8 : Int32)), sI 21]) rfl (zXS_iloadN X0.here hx rfl (hb hby d11_69) rfl (zXS_iconst X0.here hx rfl (hb hby d11_70) (zXT_iushr X0.here hx rfl (hb hby d11_71) rfl (zXS_istoreN X0.here hx rfl (hb hby d11_72) rfl (l' := #[sI (XT.ushr (XT.ushr a (8 : Int32)) (2 : Int32)), sI 21]) rfl hr)))))) ?_
            have b25 : 0 ≤ (XT.ushr (XT.ushr a (8 : Int32)) (2 : Int32)).toInt ∧ (XT.ushr (XT.ushr a (8 : Int32)) (2 : Int32)).toInt < 4 := own_shr2 (B := 4) b22.1 (Int.lt_of_lt_of_le b22.2 (by decide))
            refine Gl.go (fun _ hr => zXS_iloadN X0.here hx rfl (hb hby d11_73) rfl (zXS_iloadN X0.here hx rfl (hb hby d11_74) rfl (zXS_iconst X0.here hx rfl (hb hby d11_75) (zXT_iushr X0.here hx rfl (hb hby d11_76) rfl (zXS_isub X0.here hx rfl (hb hby d11_77) rfl hr))))) ?_
            obtain ⟨fs, hr, hrun, hended, hW, hsame⟩ := X0.leave (v := some (.int ((21 : Int32) - (XT.ushr (XT.ushr (XT.ushr a (8 : Int32)) (2 : Int32)) (1 : Int32))))) (fun h => by rw [Bd.returns] at h; cases h)
            refine ⟨_, _, retOut X0 hx Bd.returns rfl (Or.inl ⟨rfl, Or.inl rfl, _, rfl⟩) (hb hby d11_78) hr, hrun, hended, _, _, rfl, ?_, ⟨⟨_, rfl⟩, hW, hsame.mono (by decide) (by decide)⟩⟩
            show Qnlzi Z a h0 n0 _ s₁.heap _
            rw [e0]
            exact ⟨((21 : Int32) - (XT.ushr (XT.ushr (XT.ushr a (8 : Int32)) (2 : Int32)) (1 : Int32))), rfl, N0, rfl, (own_last (by decide) (by decide) b25)⟩
        · refine Gl.go (fun _ hr => zXS_icmpNo X0.here hx rfl (hb hby d11_51) rfl (XT.ii_lt_f hc21) (zXS_iinc X0.here hx rfl (hb hby d11_54) rfl (l' := #[sI (XT.ushr a (8 : Int32)), sI 19]) rfl (zXS_iloadN X0.here hx rfl (hb hby d11_57) rfl (zXS_iconst X0.here hx rfl (hb hby d11_58) (zXT_iushr X0.here hx rfl (hb hby d11_59) rfl (zXS_istoreN X0.here hx rfl (hb hby d11_60) rfl (l' := #[sI (XT.ushr (XT.ushr a (8 : Int32)) (4 : Int32)), sI 19]) rfl hr)))))) ?_
          have b26 : 0 ≤ (XT.ushr (XT.ushr a (8 : Int32)) (4 : Int32)).toInt ∧ (XT.ushr (XT.ushr a (8 : Int32)) (4 : Int32)).toInt < 16 := own_shr4 (B := 16) b20.1 (Int.lt_of_lt_of_le b20.2 (by decide))
          refine Gl.go (fun _ hr => zXS_iloadN X0.here hx rfl (hb hby d11_61) rfl (zXS_iconst X0.here hx rfl (hb hby d11_62) hr)) ?_
          by_cases hc27 : (XT.ushr (XT.ushr a (8 : Int32)) (4 : Int32)) < (4 : Int32)
          · refine Gl.go (fun _ hr => zXS_icmpYes X0.here hx rfl (pc0 := 63) (pc' := 73) rfl (hb hby d11_63) rfl (XT.ii_lt_t hc27) (by decide) (by decide) hr) ?_
            have b28 : 0 ≤ (XT.ushr (XT.ushr a (8 : Int32)) (4 : Int32)).toInt ∧ (XT.ushr (XT.ushr a (8 : Int32)) (4 : Int32)).toInt < 4 := own_kp b26 rfl hc27
            refine Gl.go (fun _ hr => zXS_iloadN X0.here hx rfl (hb hby d11_73) rfl (zXS_iloadN X0.here hx rfl (hb hby d11_74) rfl (zXS_iconst X0.here hx rfl (hb hby d11_75) (zXT_iushr X0.here hx rfl (hb hby d11_76) rfl (zXS_isub X0.here hx rfl (hb hby d11_77) rfl hr))))) ?_
            obtain ⟨fs, hr, hrun, hended, hW, hsame⟩ := X0.leave (v := some (.int ((19 : Int32) - (XT.ushr (XT.ushr (XT.ushr a (8 : Int32)) (4 : Int32)) (1 : Int32))))) (fun h => by rw [Bd.returns] at h; cases h)
            refine ⟨_, _, retOut X0 hx Bd.returns rfl (Or.inl ⟨rfl, Or.inl rfl, _, rfl⟩) (hb hby d11_78) hr, hrun, hended, _, _, rfl, ?_, ⟨⟨_, rfl⟩, hW, hsame.mono (by decide) (by decide)⟩⟩
            show Qnlzi Z a h0 n0 _ s₁.heap _
            rw [e0]
            exact ⟨((19 : Int32) - (XT.ushr (XT.ushr (XT.ushr a (8 : Int32)) (4 : Int32)) (1 : Int32))), rfl, N0, rfl, (own_last (by decide) (by decide) b28)⟩
          · refine Gl.go (fun _ hr => zXS_icmpNo X0.here hx rfl (hb hby d11_63) rfl (XT.ii_lt_f hc27) (zXS_iinc X0.here hx rfl (hb hby d11_66) rfl (l' := #[sI (XT.ushr (XT.ushr a (8 : Int32)) (4 : Int32)), sI 17]) rfl (zXS_iloadN X0.here hx rfl (hb hby d11_69) rfl (zXS_iconst X0.here hx rfl (hb hby d11_70) (zXT_iushr X0.here hx rfl (hb hby d11_71) rfl (zXS_istoreN X0.here hx rfl (hb hby d11_72) rfl (l' := #[sI (XT.ushr (XT.ushr (XT.ushr a (8 : Int32)) (4 : Int32)) (2 : Int32)), sI 17]) rfl hr)))))) ?_
            have b29 : 0 ≤ (XT.ushr (XT.ushr (XT.ushr a (8 : Int32)) (4 : Int32)) (2 : Int32)).toInt ∧ (XT.ushr (XT.ushr (XT.ushr a (8 : Int32)) (4 : Int32)) (2 : Int32)).toInt < 4 := own_shr2 (B := 4) b26.1 (Int.lt_of_lt_of_le b26.2 (by decide))
            refine Gl.go (fun _ hr => zXS_iloadN X0.here hx rfl (hb hby d11_73) rfl (zXS_iloadN X0.here hx rfl (hb hby d11_74) rfl (zXS_iconst X0.here hx rfl (hb hby d11_75) (zXT_iushr X0.here hx rfl (hb hby d11_76) rfl (zXS_isub X0.here hx rfl (hb hby d11_77) rfl hr))))) ?_
            obtain ⟨fs, hr, hrun, hended, hW, hsame⟩ := X0.leave (v := some (.int ((17 : Int32) - (XT.ushr (XT.ushr (XT.ushr (XT.ushr a (8 : Int32)) (4 : Int32)) (2 : Int32)) (1 : Int32))))) (fun h => by rw [Bd.returns] at h; cases h)
            refine ⟨_, _, retOut X0 hx Bd.returns rfl (Or.inl ⟨rfl, Or.inl rfl, _, rfl⟩) (hb hby d11_78) hr, hrun, hended, _, _, rfl, ?_, ⟨⟨_, rfl⟩, hW, hsame.mono (by decide) (by decide)⟩⟩
            show Qnlzi Z a h0 n0 _ s₁.heap _
            rw [e0]
            exact ⟨((17 : Int32) - (XT.ushr (XT.ushr (XT.ushr (XT.ushr a (8 : Int32)) (4 : Int32)) (2 : Int32)) (1 : Int32))), rfl, N0, rfl, (own_last (by decide) (by decide) b29)⟩
    · refine Gl.go (fun _ hr => zXS_icmpNo X0.here hx rfl (hb hby d11_22) rfl (XT.ii_lt_f hc7) (zXS_iinc X0.here hx rfl (hb hby d11_25) rfl (l' := #[sI a, sI 15]) rfl (zXS_iloadN X0.here hx rfl (hb hby d11_28) rfl (zXS_bipush X0.here hx rfl (hb hby d11_29) (zXT_iushr X0.here hx rfl (hb hby d11_31) rfl (zXS_istoreN X0.here hx rfl (hb hby d11_32) rfl (l' := #[sI (XT.ushr a (16 : Int32)), sI 15]) rfl hr)))))) ?_
      have b30 : 0 ≤ (XT.ushr a (16 : Int32)).toInt ∧ (XT.ushr a (16 : Int32)).toInt < 65536 := own_shr16 (B := 65536) b0.1 (Int.lt_of_lt_of_le b0.2 (by decide))
      refine Gl.go (fun _ hr => zXS_iloadN X0.here hx rfl (hb hby d11_33) rfl (zXS_sipush X0.here hx rfl (hb hby d11_34) hr)) ?_
      by_cases hc31 : (XT.ushr a (16 : Int32)) < (256 : Int32)
      · refine Gl.go (fun _ hr => zXS_icmpYes X0.here hx rfl (pc0 := 37) (pc' := 48) rfl (hb hby d11_37) rfl (XT.ii_lt_t hc31) (by decide) (by decide) hr) ?_
        have b32 : 0 ≤ (XT.ushr a (16 : Int32)).toInt ∧ (XT.ushr a (16 : Int32)).toInt < 256 := own_kp b30 rfl hc31
        refine Gl.go (fun _ hr => zXS_iloadN X0.here hx rfl (hb hby d11_48) rfl (zXS_bipush X0.here hx rfl (hb hby d11_49) hr)) ?_
        by_cases hc33 : (XT.ushr a (16 : Int32)) < (16 : Int32)
        · refine Gl.go (fun _ hr => zXS_icmpYes X0.here hx rfl (pc0 := 51) (pc' := 61) rfl (hb hby d11_51) rfl (XT.ii_lt_t hc33) (by decide) (by decide) hr) ?_
          have b34 : 0 ≤ (XT.ushr a (16 : Int32)).toInt ∧ (XT.ushr a (16 : Int32)).toInt < 16 := own_kp b32 rfl hc33
          refine Gl.go (fun _ hr => zXS_iloadN X0.here hx rfl (hb hby d11_61) rfl (zXS_iconst X0.here hx rfl (hb hby d11_62) hr)) ?_
          by_cases hc35 : (XT.ushr a (16 : Int32)) < (4 : Int32)
          · refine Gl.go (fun _ hr => zXS_icmpYes X0.here hx rfl (pc0 := 63) (pc' := 73) rfl (hb hby d11_63) rfl (XT.ii_lt_t hc35) (by decide) (by decide) hr) ?_
            have b36 : 0 ≤ (XT.ushr a (16 : Int32)).toInt ∧ (XT.ushr a (16 : Int32)).toInt < 4 := own_kp b34 rfl hc35
            refine Gl.go (fun _ hr => zXS_iloadN X0.here hx rfl (hb hby d11_73) rfl (zXS_iloadN X0.here hx rfl (hb hby d11_74) rfl (zXS_iconst X0.here hx rfl (hb hby d11_75) (zXT_iushr X0.here hx rfl (hb hby d11_76) rfl (zXS_isub X0.here hx rfl (hb hby d11_77) rfl hr))))) ?_
            obtain ⟨fs, hr, hrun, hended, hW, hsame⟩ := X0.leave (v := some (.int ((15 : Int32) - (XT.ushr (XT.ushr a (16 : Int32)) (1 : Int32))))) (fun h => by rw [Bd.returns] at h; cases h)
            refine ⟨_, _, retOut X0 hx Bd.returns rfl (Or.inl ⟨rfl, Or.inl rfl, _, rfl⟩) (hb hby d11_78) hr, hrun, hended, _, _, rfl, ?_, ⟨⟨_, rfl⟩, hW, hsame.mono (by decide) (by decide)⟩⟩
            show Qnlzi Z a h0 n0 _ s₁.heap _
            rw [e0]
            exact ⟨((15 : Int32) - (XT.ushr (XT.ushr a (16 : Int32)) (1 : Int32))), rfl, N0, rfl, (own_last (by decide) (by decide) b36)⟩
          · refine Gl.go (fun _ hr => zXS_icmpNo X0.here hx rfl (hb hby d11_63) rfl (XT.ii_lt_f hc35) (zXS_iinc X0.here hx rfl (hb hby d11_66) rfl (l' := #[sI (XT.ushr a (16 : Int32)), sI 13]) rfl (zXS_iloadN X0.here hx rfl (hb hby d11_69) rfl (zXS_iconst X0.here hx rfl (hb hby d11_70) (zXT_iushr X0.here hx rfl (hb hby d11_71) rfl (zXS_istoreN X0.here hx rfl (hb hby d11_72) rfl (l' := #[sI (XT.ushr (XT.ushr a (16 : Int32)) (2 : Int32)), sI 13]) rfl hr)))))) ?_
            have b37 : 0 ≤ (XT.ushr (XT.ushr a (16 : Int32)) (2 : Int32)).toInt ∧ (XT.ushr (XT.ushr a (16 : Int32)) (2 : Int32)).toInt < 4 := own_shr2 (B := 4) b34.1 (Int.lt_of_lt_of_le b34.2 (by decide))
            refine Gl.go (fun _ hr => zXS_iloadN X0.here hx rfl (hb hby d11_73) rfl (zXS_iloadN X0.here hx rfl (hb hby d11_74) rfl (zXS_iconst X0.here hx rfl (hb hby d11_75) (zXT_iushr X0.here hx rfl (hb hby d11_76) rfl (zXS_isub X0.here hx rfl (hb hby d11_77) rfl hr))))) ?_
            obtain ⟨fs, hr, hrun, hended, hW, hsame⟩ := X0.leave (v := some (.int ((13 : Int32) - (XT.ushr (XT.ushr (XT.ushr a (16 : Int32)) (2 : Int32)) (1 : Int32))))) (fun h => by rw [Bd.returns] at h; cases h)
            refine ⟨_, _, retOut X0 hx Bd.returns rfl (Or.inl ⟨rfl, Or.inl rfl, _, rfl⟩) (hb hby d11_78) hr, hrun, hended, _, _, rfl, ?_, ⟨⟨_, rfl⟩, hW, hsame.mono (by decide) (by decide)⟩⟩
            show Qnlzi Z a h0 n0 _ s₁.heap _
            rw [e0]
            exact ⟨((13 : Int32) - (XT.ushr (XT.ushr (XT.ushr a (16 : Int32)) (2 : Int32)) (1 : Int32))), rfl, N0, rfl, (own_last (by decide) (by decide) b37)⟩
        · refine Gl.go (fun _ hr => zXS_icmpNo X0.here hx rfl (hb hby d11_51) rfl (XT.ii_lt_f hc33) (zXS_iinc X0.here hx rfl (hb hby d11_54) rfl (l' := #[sI (XT.ushr a (16 : Int32)), sI 11]) rfl (zXS_iloadN X0.here hx rfl (hb hby d11_57) rfl (zXS_iconst X0.here hx rfl (hb hby d11_58) (zXT_iushr X0.here hx rfl (hb hby d11_59) rfl (zXS_istoreN X0.here hx rfl (hb hby d11_60) rfl (l' := #[sI (XT.ushr (XT.ushr a (16 : Int32)) (4 : Int32)), sI 11]) rfl hr)))))) ?_
          have b38 : 0 ≤ (XT.ushr (XT.ushr a (16 : Int32)) (4 : Int32)).toInt ∧ (XT.ushr (XT.ushr a (16 : Int32)) (4 : Int32)).toInt < 16 := own_shr4 (B := 16) b32.1 (Int.lt_of_lt_of_le b32.2 (by decide))
          refine Gl.go (fun _ hr => zXS_iloadN X0.here hx rfl (hb hby d11_61) rfl (zXS_iconst X0.here hx rfl (hb hby d11_62) hr)) ?_
          by_cases hc39 : (XT.ushr (XT.ushr a (16 : Int32)) (4 : Int32)) < (4 : Int32)
          · refine Gl.go (fun _ hr => zXS_icmpYes X0.here hx rfl (pc0 := 63) (pc' := 73) rfl (hb hby d11_63) rfl (XT.ii_lt_t hc39) (by decide) (by decide) hr) ?_
            have b40 : 0 ≤ (XT.ushr (XT.ushr a (16 : Int32)) (4 : Int32)).toInt ∧ (XT.ushr (XT.ushr a (16 : Int32)) (4 : Int32)).toInt < 4 := own_kp b38 rfl hc39
            refine Gl.go (fun _ hr => zXS_iloadN X0.here hx rfl (hb hby d11_73) rfl (zXS_iloadN X0.here hx rfl (hb hby d11_74) rfl (zXS_iconst X0.here hx rfl (hb hby d11_75) (zXT_iushr X0.here hx rfl (hb hby d11_76) rfl (zXS_isub X0.here hx rfl (hb hby d11_77) rfl hr))))) ?_
            obtain ⟨fs, hr, hrun, hended, hW, hsame⟩ := X0.leave (v := some (.int ((11 : Int32) - (XT.ushr (XT.ushr (XT.ushr a (16 : Int32)) (4 : Int32)) (1 : Int32))))) (fun h => by rw [Bd.returns] at h; cases h)
            refine ⟨_, _, retOut X0 hx Bd.returns rfl (Or.inl ⟨rfl, Or.inl rfl, _, rfl⟩) (hb hby d11_78) hr, hrun, hended, _, _, rfl, ?_, ⟨⟨_, rfl⟩, hW, hsame.mono (by decide) (by decide)⟩⟩
            show Qnlzi Z a h0 n0 _ s₁.heap _
            rw [e0]
            exact ⟨((11 : Int32) - (XT.ushr (XT.ushr (XT.ushr a (16 : Int32)) (4 : Int32)) (1 : Int32))), rfl, N0, rfl, (own_last (by decide) (by decide) b40)⟩
          · refine Gl.go (fun _ hr => zXS_icmpNo X0.here hx rfl (hb hby d11_63) rfl (XT.ii_lt_f hc39) (zXS_iinc X0.here hx rfl (hb hby d11_66) rfl (l' := #[sI (XT.ushr (XT.ushr a (16 : Int32)) (4 : Int32)), sI 9]) rfl (zXS_iloadN X0.here hx rfl (hb hby d11_69) rfl (zXS_iconst X0.here hx rfl (hb hby d11_70) (zXT_iushr X0.here hx rfl (hb hby d11_71) rfl (zXS_istoreN X0.here hx rfl (hb hby d11_72) rfl (l' := #[sI (XT.ushr (XT.ushr (XT.ushr a (16 : Int32)) (4 : Int32)) (2 : Int32)), sI 9]) rfl hr)))))) ?_
            have b41 : 0 ≤ (XT.ushr (XT.ushr (XT.ushr a (16 : Int32)) (4 : Int32)) (2 : Int32)).toInt ∧ (XT.ushr (XT.ushr (XT.ushr a (16 : Int32)) (4 : Int32)) (2 : Int32)).toInt < 4 := own_shr2 (B := 4) b38.1 (Int.lt_of_lt_of_le b38.2 (by decide))
            refine Gl.go (fun _ hr => zXS_iloadN X0.here hx rfl (hb hby d11_73) rfl (zXS_iloadN X0.here hx rfl (hb hby d11_74) rfl (zXS_iconst X0.here hx rfl (hb hby d11_75) (zXT_iushr X0.here hx rfl (hb hby d11_76) rfl (zXS_isub X0.here hx rfl (hb hby d11_77) rfl hr))))) ?_
            obtain ⟨fs, hr, hrun, hended, hW, hsame⟩ := X0.leave (v := some (.int ((9 : Int32) - (XT.ushr (XT.ushr (XT.ushr (XT.ushr a (16 : Int32)) (4 : Int32)) (2 : Int32)) (1 : Int32))))) (fun h => by rw [Bd.returns] at h; cases h)
            refine ⟨_, _, retOut X0 hx Bd.returns rfl (Or.inl ⟨rfl, Or.inl rfl, _, rfl⟩) (hb hby d11_78) hr, hrun, hended, _, _, rfl, ?_, ⟨⟨_, rfl⟩, hW, hsame.mono (by decide) (by decide)⟩⟩
            show Qnlzi Z a h0 n0 _ s₁.heap _
            rw [e0]
            exact ⟨((9 : Int32) - (XT.ushr (XT.ushr (XT.ushr (XT.ushr a (16 : Int32)) (4 : Int32)) (2 : Int32)) (1 : Int32))), rfl, N0, rfl, (own_last (by decide) (by decide) b41)⟩
      · refine Gl.go (fun _ hr => zXS_icmpNo X0.here hx rfl (hb hby d11_37) rfl (XT.ii_lt_f hc31) (zXS_iinc X0.here hx rfl (hb hby d11_40) rfl (l' := #[sI (XT.ushr a (16 : Int32)), sI 7]) rfl (zXS_iloadN X0.here hx rfl (hb hby d11_43) rfl (zXS_bipush X0.here hx rfl (hb hby d11_44) (zXT_iushr X0.here hx rfl (hb hby d11_46) rfl (zXS_istoreN X0.here hx rfl (hb hby d11_47) rfl (l' := #[sI (XT.ushr (XT.ushr a (16 : Int32)) (8 : Int32)), sI 7]) rfl hr)))))) ?_
        have b42 : 0 ≤ (XT.ushr (XT.ushr a (16 : Int32)) (8 : Int32)).toInt ∧ (XT.ushr (XT.ushr a (16 : Int32)) (8 : Int32)).toInt < 256 := own_shr8 (B := 256) b30.1 (Int.lt_of_lt_of_le b30.2 (by decide))
        refine Gl.go (fun _ hr => zXS_iloadN X0.here hx rfl (hb hby d11_48) rfl (zXS_bipush X0.here hx rfl (hb hby d11_49) hr)) ?_
        by_cases hc43 : (XT.ushr (XT.ushr a (16 : Int32)) (8 : Int32)) < (16 : Int32)
        · refine Gl.go (fun _ hr => zXS_icmpYes X0.here hx rfl (pc0 := 51) (pc' := 61) rfl (hb hby d11_51) rfl (XT.ii_lt_t hc43) (by decide) (by decide) hr) ?_
          have b44 : 0 ≤ (XT.ushr (XT.ushr a (16 : Int32)) (8 : Int32)).toInt ∧ (XT.ushr (XT.ushr a (16 : Int32)) (8 : Int32)).toInt < 16 := own_kp b42 rfl hc43
          refine Gl.go (fun _ hr => zXS_iloadN X0.here hx rfl (hb hby d11_61) rfl (zXS_iconst X0.here hx rfl (hb hby d11_62) hr)) ?_
          by_cases hc45 : (XT.ushr (XT.ushr a (16 : Int32)) (8 : Int32)) < (4 : Int32)
          · refine Gl.go (fun _ hr => zXS_icmpYes X0.here hx rfl (pc0 := 63) (pc' := 73) rfl (hb hby d11_63) rfl (XT.ii_lt_t hc45) (by decide) (by decide) hr) ?_
            have b46 : 0 ≤ (XT.ushr (XT.ushr a (16 : Int32)) (8 : Int32)).toInt ∧ (XT.ushr (XT.ushr a (16 : Int32)) (8 : Int32)).toInt < 4 := own_kp b44 rfl hc45
            refine Gl.go (fun _ hr => zXS_iloadN X0.here hx rfl (hb hby d11_73) rfl (zXS_iloadN X0.here hx rfl (hb hby d11_74) rfl (zXS_iconst X0.here hx rfl (hb hby d11_75) (zXT_iushr X0.here hx rfl (hb hby d11_76) rfl (zXS_isub X0.here hx rfl (hb hby d11_77) rfl hr))))) ?_
            obtain ⟨fs, hr, hrun, hended, hW, hsame⟩ := X0.leave (v := some (.int ((7 : Int32) - (XT.ushr (XT.ushr (XT.ushr a (16 : Int32)) (8 : Int32)) (1 : Int32))))) (fun h => by rw [Bd.returns] at h; cases h)
            refine ⟨_, _, retOut X0 hx Bd.returns rfl (Or.inl ⟨rfl, Or.inl rfl, _, rfl⟩) (hb hby d11_78) hr, hrun, hended, _, _, rfl, ?_, ⟨⟨_, rfl⟩, hW, hsame.mono (by decide) (by decide)⟩⟩
            show Qnlzi Z a h0 n0 _ s₁.heap _
            rw [e0]
            exact ⟨((7 : Int32) - (XT.ushr (XT.ushr (XT.ushr a (16 : Int32)) (8 : Int32)) (1 : Int32))), rfl, N0, rfl, (own_last (by decide) (by decide) b46)⟩
          · refine Gl.go (fun _ hr => zXS_icmpNo X0.here hx rfl (hb hby d11_63) rfl (XT.ii_lt_f hc45) (zXS_iinc X0.here hx rfl (hb hby d11_66) rfl (l' := #[sI (XT.ushr (XT.ushr a (16 : Int32)) (8 : Int32)), sI 5]) rfl (zXS_iloadN X0.here hx rfl (hb hby d11_69) rfl (zXS_iconst X0.here hx rfl (hb hby d11_70) (zXT_iushr X0.here hx rfl (hb hby d11_71) rfl (zXS_istoreN X0.here hx rfl (hb hby d11_72) rfl (l' := #[sI (XT.ushr (XT.ushr (XT.ushr a (16 : Int32)) (8 : Int32)) (2 : Int32)), sI 5]) rfl hr)))))) ?_
            have b47 : 0 ≤ (XT.ushr (XT.ushr (XT.ushr a (16 : Int32)) (8 : Int32)) (2 : Int32)).toInt ∧ (XT.ushr (XT.ushr (XT.ushr a (16 : Int32)) (8 : Int32)) (2 : Int32)).toInt < 4 := own_shr2 (B := 4) b44.1 (Int.lt_of_lt_of_le b44.2 (by decide))
            refine Gl.go (fun _ hr => zXS_iloadN X0.here hx rfl (hb hby d11_73) rfl (zXS_iloadN X0.here hx rfl (hb hby d11_74) rfl (zXS_iconst X0.here hx rfl (hb hby d11_75) (zXT_iushr X0.here hx rfl (hb hby d11_76) rfl (zXS_isub X0.here hx rfl (hb hby d11_77) rfl hr))))) ?_
            obtain ⟨fs, hr, hrun, hended, hW, hsame⟩ := X0.leave (v := some (.int ((5 : Int32) - (XT.ushr (XT.ushr (XT.ushr (XT.ushr a (16 : Int32)) (8 : Int32)) (2 : Int32)) (1 : Int32))))) (fun h => by rw [Bd.returns] at h; cases h)
            refine ⟨_, _, retOut X0 hx Bd.returns rfl (Or.inl ⟨rfl, Or.inl rfl, _, rfl⟩) (hb hby d11_78) hr, hrun, hended, _, _, rfl, ?_, ⟨⟨_, rfl⟩, hW, hsame.mono (by decide) (by decide)⟩⟩
            show Qnlzi Z a h0 n0 _ s₁.heap _
            rw [e0]
            exact ⟨((5 : Int32) - (XT.ushr (XT.ushr (XT.ushr (XT.ushr a (16 : Int32)) (8 : Int32)) (2 : Int32)) (1 : Int32))), rfl, N0, rfl, (own_last (by decide) (by decide) b47)⟩
        · refine Gl.go (fun _ hr => zXS_icmpNo X0.here hx rfl (hb hby d11_51) rfl (XT.ii_lt_f hc43) (zXS_iinc X0.here hx rfl (hb hby d11_54) rfl (l' := #[sI (XT.ushr (XT.ushr a (16 : Int32)) (8 : Int32)), sI 3]) rfl (zXS_iloadN X0.here hx rfl (hb hby d11_57) rfl (zXS_iconst X0.here hx rfl (hb hby d11_58) (zXT_iushr X0.here hx rfl (hb hby d11_59) rfl (zXS_istoreN X0.here hx rfl (hb hby d11_60) rfl (l' := #[sI (XT.ushr (XT.ushr (XT.ushr a (16 : Int32)) (8 : Int32)) (4 : Int32)), sI 3]) rfl hr)))))) ?_
          have b48 : 0 ≤ (XT.ushr (XT.ushr (XT.ushr a (16 : Int32)) (8 : Int32)) (4 : Int32)).toInt ∧ (XT.ushr (XT.ushr (XT.ushr a (16 : Int32)) (8 : Int32)) (4 : Int32)).toInt < 16 := own_shr4 (B := 16) b42.1 (Int.lt_of_lt_of_le b42.2 (by decide))
          refine Gl.go (fun _ hr => zXS_iloadN X0.here hx rfl (hb hby d11_61) rfl (zXS_iconst X0.here hx rfl (hb hby d11_62) hr)) ?_
          by_cases hc49 : (XT.ushr (XT.ushr (XT.ushr a (16 : Int32)) (8 : Int32)) (4 : Int32)) < (4 : Int32)
          · refine Gl.go (fun _ hr => zXS_icmpYes X0.here hx rfl (pc0 := 63) (pc' := 73) rfl (hb hby d11_63) rfl (XT.ii_lt_t hc49) (by decide) (by decide) hr) ?_
            have b50 : 0 ≤ (XT.ushr (XT.ushr (XT.ushr a (16 : Int32)) (8 : Int32)) (4 : Int32)).toInt ∧ (XT.ushr (XT.ushr (XT.ushr a (16 : Int32)) (8 : Int32)) (4 : Int32)).toInt < 4 := own_kp b48 rfl hc49
            refine Gl.go (fun _ hr => zXS_iloadN X0.here hx rfl (hb hby d11_73) rfl (zXS_iloadN X0.here hx rfl (hb hby d11_74) rfl (zXS_iconst X0.here hx rfl (hb hby d11_75) (zXT_iushr X0.here hx rfl (hb hby d11_76) rfl (zXS_isub X0.here hx rfl (hb hby d11_77) rfl hr))))) ?_
            obtain ⟨fs, hr, hrun, hended, hW, hsame⟩ := X0.leave (v := some (.int ((3 : Int32) - (XT.ushr (XT.ushr (XT.ushr (XT.ushr a (16 : Int32)) (8 : Int32)) (4 : Int32)) (1 : Int32))))) (fun h => by rw [Bd.returns] at h; cases h)
            refine ⟨_, _, retOut X0 hx Bd.returns rfl (Or.inl ⟨rfl, Or.inl rfl, _, rfl⟩) (hb hby d11_78) hr, hrun, hended, _, _, rfl, ?_, ⟨⟨_, rfl⟩, hW, hsame.mono (by decide) (by decide)⟩⟩
            show Qnlzi Z a h0 n0 _ s₁.heap _
            rw [e0]
            exact ⟨((3 : Int32) - (XT.ushr (XT.ushr (XT.ushr (XT.ushr a (16 : Int32)) (8 : Int32)) (4 : Int32)) (1 : Int32))), rfl, N0, rfl, (own_last (by decide) (by decide) b50)⟩
          · refine Gl.go (fun _ hr => zXS_icmpNo X0.here hx rfl (hb hby d11_63) rfl (XT.ii_lt_f hc49) (zXS_iinc X0.here hx rfl (hb hby d11_66) rfl (l' := #[sI (XT.ushr (XT.ushr (XT.ushr a (16 : Int32)) (8 : Int32)) (4 : Int32)), sI 1]) rfl (zXS_iloadN X0.here hx rfl (hb hby d11_69) rfl (zXS_iconst X0.here hx rfl (hb hby d11_70) (zXT_iushr X0.here hx rfl (hb hby d11_71) rfl (zXS_istoreN X0.here hx rfl (hb hby d11_72) rfl (l' := #[sI (XT.ushr (XT.ushr (XT.ushr (XT.ushr a (16 : Int32)) (8 : Int32)) (4 : Int32)) (2 : Int32)), sI 1]) rfl hr)))))) ?_
            have b51 : 0 ≤ (XT.ushr (XT.ushr (XT.ushr (XT.ushr a (16 : Int32)) (8 : Int32)) (4 : Int32)) (2 : Int32)).toInt ∧ (XT.ushr (XT.ushr (XT.ushr (XT.ushr a (16 : Int32)) (8 : Int32)) (4 : Int32)) (2 : Int32)).toInt < 4 := own_shr2 (B := 4) b48.1 (Int.lt_of_lt_of_le b48.2 (by decide))
            refine Gl.go (fun _ hr => zXS_iloadN X0.here hx rfl (hb hby d11_73) rfl (zXS_iloadN X0.here hx rfl (hb hby d11_74) rfl (zXS_iconst X0.here hx rfl (hb hby d11_75) (zXT_iushr X0.here hx rfl (hb hby d11_76) rfl (zXS_isub X0.here hx rfl (hb hby d11_77) rfl hr))))) ?_
            obtain ⟨fs, hr, hrun, hended, hW, hsame⟩ := X0.leave (v := some (.int ((1 : Int32) - (XT.ushr (XT.ushr (XT.ushr (XT.ushr (XT.ushr a (16 : Int32)) (8 : Int32)) (4 : Int32)) (2 : Int32)) (1 : Int32))))) (fun h => by rw [Bd.returns] at h; cases h)
            refine ⟨_, _, retOut X0 hx Bd.returns rfl (Or.inl ⟨rfl, Or.inl rfl, _, rfl⟩) (hb hby d11_78) hr, hrun, hended, _, _, rfl, ?_, ⟨⟨_, rfl⟩, hW, hsame.mono (by decide) (by decide)⟩⟩
            show Qnlzi Z a h0 n0 _ s₁.heap _
            rw [e0]
            exact ⟨((1 : Int32) - (XT.ushr (XT.ushr (XT.ushr (XT.ushr (XT.ushr a (16 : Int32)) (8 : Int32)) (4 : Int32)) (2 : Int32)) (1 : Int32))), rfl, N0, rfl, (own_last (by decide) (by decide) b51)⟩
  · refine Gl.go (fun _ hr => zXS_ifNo X0.here hx rfl (hb hby d11_1) rfl (XT.i0_gt_f hc6) (zXS_iloadN X0.here hx rfl (hb hby d11_4) rfl hr)) ?_
    by_cases hc52 : a = (0 : Int32)
    · refine Gl.go (fun _ hr => zXS_ifNo X0.here hx rfl (hb hby d11_5) rfl (XT.i0_ne_f hc52) (zXS_bipush X0.here hx rfl (hb hby d11_8) (zXS_goto X0.here hx rfl (pc0 := 10) (pc' := 14) rfl (hb hby d11_10) (by decide) (by decide) hr))) ?_
      obtain ⟨fs, hr, hrun, hended, hW, hsame⟩ := X0.leave (v := some (.int (32 : Int32))) (fun h => by rw [Bd.returns] at h; cases h)
      refine ⟨_, _, retOut X0 hx Bd.returns rfl (Or.inl ⟨rfl, Or.inl rfl, _, rfl⟩) (hb hby d11_14) hr, hrun, hended, _, _, rfl, ?_, ⟨⟨_, rfl⟩, hW, hsame.mono (by decide) (by decide)⟩⟩
      show Qnlzi Z a h0 n0 _ s₁.heap _
      rw [e0]
      exact ⟨(32 : Int32), rfl, N0, rfl, (by decide)⟩
    · refine Gl.go (fun _ hr => zXS_ifYes X0.here hx rfl (pc0 := 5) (pc' := 13) rfl (hb hby d11_5) rfl (XT.i0_ne_t hc52) (by decide) (by decide) (zXS_iconst X0.here hx rfl (hb hby d11_13) hr)) ?_
      obtain ⟨fs, hr, hrun, hended, hW, hsame⟩ := X0.leave (v := some (.int (0 : Int32))) (fun h => by rw [Bd.returns] at h; cases h)
      refine ⟨_, _, retOut X0 hx Bd.returns rfl (Or.inl ⟨rfl, Or.inl rfl, _, rfl⟩) (hb hby d11_14) hr, hrun, hended, _, _, rfl, ?_, ⟨⟨_, rfl⟩, hW, hsame.mono (by decide) (by decide)⟩⟩
      show Qnlzi Z a h0 n0 _ s₁.heap _
      rw [e0]
      exact ⟨(0 : Int32), rfl, N0, rfl, (by decide)⟩
def Qnlzi0 (Z : State)  (h0 : Heap) (n0 : Nat) (v : Option Value) (h : Heap) (L : List Loc) : Prop := v = some (.int (32 : Int32)) ∧ Fr n0 L ∧ h = h0
theorem ef_nlzi0 (m : MethodId) (x0 : Int32) : entryFrame m #[(.int x0)] 2 = mkF m 0 #[sI x0, sU] [] := by first | (simp [entryFrame, mkF, argsToLocals, Value.category]; done) | rfl
set_option maxRecDepth 65536 in
set_option maxHeartbeats 40000000 in
theorem nlzi0 (l : Launch) (Z : State) (a0 : Array Value) (hw : ∀ d ∈ tables_1, d.before a0 Z = true) (ws : List Jvm.Cond)  (h0 : Heap) (n0 : Nat) (Z0 : n0 ≤ h0.size) :
    MetFree l (⟨"java/lang/Integer", "numberOfLeadingZeros", "(I)I"⟩ : MethodName) (head1 (Jvm.Cond.code (⟨"java/lang/Integer", "numberOfLeadingZeros", "(I)I"⟩ : MethodName) jdk_33_method_47_code 2 (some .int) :: ws) ({ frames := 0, cells := 0, slots := 0, locals := 0 } : Room)) (fun a_ U_ => a_ = #[(.int (0 : Int32))] ∧ Z.Warmed39 U_.vm ∧ U_.heap = h0) (fun _ _ _ _ _ => True) (fun _ U_ o_ V_ => ∃ v_ L_, o_ = .returned v_ ∧ Qnlzi0 Z  h0 n0 v_ V_.heap L_ ∧ FrameEnd U_ o_ V_ L_ ({ frames := 0, cells := 0, slots := 0, locals := 0 } : Room).cells ({ frames := 0, cells := 0, slots := 0, locals := 0 } : Room).slots) := by
  refine MetFree.of_bodySF (plainFor_of_name pn_2) hisR ?_
  intro p e s m args below meth c s₁ Bd hml0 hP hK
  obtain ⟨rfl, hZ, hh⟩ := hP
  have hx := Bd.exec
  have hby := Bd.bytes
  have hml : c.maxLocals = 2 := hml0
  have hown : s.vm.findClass "java/lang/Integer" = some m.cls := findClass_of_methodNamed Bd.named
  have hnm := (name_of_methodNamed Bd.named Bd.method).1
  have X0 : Stand p l e ({ frames := 0, cells := 0, slots := 0, locals := 0 } : Room) s m #[(.int (0 : Int32))] below meth c s₁ [] 0 0 := Stand.of_body Bd
  have e0 : s₁.heap = h0 := by rw [← hh, Bd.state]; rfl
  have N0 := Fr.nil n0
  refine Gl.go (A := s₁.setTop (entryFrame m #[(.int (0 : Int32))] 2)) (P := fun o_ U_ => ∃ v_ L_, o_ = .returned v_ ∧ Qnlzi0 Z  h0 n0 v_ U_.heap L_ ∧ FrameEnd s o_ U_ L_ ({ frames := 0, cells := 0, slots := 0, locals := 0 } : Room).cells ({ frames := 0, cells := 0, slots := 0, locals := 0 } : Room).slots) (fun t_ k_ => castTop (ef_nlzi0 m (0 : Int32)) k_) ?_
  show Gl p.tables e below _ (s₁.setTop (mkF m 0 #[sI 0, sU] []))
  refine Gl.go (fun _ hr => zXS_iloadN X0.here hx rfl (hb hby d11_0) rfl (zXS_ifNo X0.here hx rfl (hb hby d11_1) rfl (XT.i0_gt_f (by decide)) (zXS_iloadN X0.here hx rfl (hb hby d11_4) rfl (zXS_ifNo X0.here hx rfl (hb hby d11_5) rfl (XT.i0_ne_f (by decide)) (zXS_bipush X0.here hx rfl (hb hby d11_8) (zXS_goto X0.here hx rfl (pc0 := 10) (pc' := 14) rfl (hb hby d11_10) (by decide) (by decide) hr)))))) ?_
  obtain ⟨fs, hr, hrun, hended, hW, hsame⟩ := X0.leave (v := some (.int (32 : Int32))) (fun h => by rw [Bd.returns] at h; cases h)
  refine ⟨_, _, retOut X0 hx Bd.returns rfl (Or.inl ⟨rfl, Or.inl rfl, _, rfl⟩) (hb hby d11_14) hr, hrun, hended, _, _, rfl, ?_, ⟨⟨_, rfl⟩, hW, hsame.mono (by decide) (by decide)⟩⟩
  show Qnlzi0 Z  h0 n0 _ s₁.heap _
  rw [e0]
  exact ⟨rfl, N0, rfl⟩
def Qnlzj (Z : State) (a : Int64) (h0 : Heap) (n0 : Nat) (v : Option Value) (h : Heap) (L : List Loc) : Prop := ∃ (r : Int32), v = some (.int r) ∧ Fr n0 L ∧ h = h0 ∧ (0 ≤ r.toInt ∧ r.toInt ≤ 64)
theorem ef_nlzj (m : MethodId) (x0 : Int64) : entryFrame m #[(.long x0)] 3 = mkF m 0 #[sJ x0, sS, sU] [] := by first | (simp [entryFrame, mkF, argsToLocals, Value.category]; done) | rfl
theorem d10_0 : decode jdk_35_method_48_code 0 = .ok (.lload_n 0, 1) := by decide +kernel
theorem d10_1 : decode jdk_35_method_48_code 1 = .ok (.bipush 32, 2) := by decide +kernel
theorem d10_3 : decode jdk_35_method_48_code 3 = .ok (.lushr, 1) := by decide +kernel
theorem d10_4 : decode jdk_35_method_48_code 4 = .ok (.l2i, 1) := by decide +kernel
theorem d10_5 : decode jdk_35_method_48_code 5 = .ok (.istore_n 2, 1) := by decide +kernel
theorem d10_6 : decode jdk_35_method_48_code 6 = .ok (.iload_n 2, 1) := by decide +kernel
theorem d10_7 : decode jdk_35_method_48_code 7 = .ok (.ifCond .ne 14, 3) := by decide +kernel
theorem d10_10 : decode jdk_35_method_48_code 10 = .ok (.bipush 32, 2) := by decide +kernel
theorem d10_12 : decode jdk_35_method_48_code 12 = .ok (.lload_n 0, 1) := by decide +kernel
theorem d10_13 : decode jdk_35_method_48_code 13 = .ok (.l2i, 1) := by decide +kernel
theorem d10_14 : decode jdk_35_method_48_code 14 = .ok (.invokestatic 308, 3) := by decide +kernel
theorem pd_2 : parseMethodDescriptor "(I)I" = some ⟨[.int], some .int⟩ := by decide +kernel
theorem d10_17 : decode jdk_35_method_48_code 17 = .ok (.iadd, 1) := by decide +kernel
theorem d10_18 : decode jdk_35_method_48_code 18 = .ok (.goto 7, 3) := by decide +kernel
theorem d10_25 : decode jdk_35_method_48_code 25 = .ok (.ireturn, 1) := by decide +kernel
theorem d10_21 : decode jdk_35_method_48_code 21 = .ok (.iload_n 2, 1) := by decide +kernel
theorem d10_22 : decode jdk_35_method_48_code 22 = .ok (.invokestatic 308, 3) := by decide +kernel
set_option maxRecDepth 65536 in
set_option maxHeartbeats 40000000 in
theorem nlzj (l : Launch) (Z : State) (a0 : Array Value) (hw : ∀ d ∈ tables_1, d.before a0 Z = true) (ws : List Jvm.Cond) (a : Int64) (h0 : Heap) (n0 : Nat) (Z0 : n0 ≤ h0.size) :
    MetFree l (⟨"java/lang/Long", "numberOfLeadingZeros", "(J)I"⟩ : MethodName) (head1 (Jvm.Cond.code (⟨"java/lang/Long", "numberOfLeadingZeros", "(J)I"⟩ : MethodName) jdk_35_method_48_code 3 (some .int) :: ws) ({ frames := 1, cells := 0, slots := 0, locals := 14 } : Room)) (fun a_ U_ => a_ = #[(.long a)] ∧ Z.Warmed39 U_.vm ∧ U_.heap = h0) (fun _ _ _ _ _ => True) (fun _ U_ o_ V_ => ∃ v_ L_, o_ = .returned v_ ∧ Qnlzj Z a h0 n0 v_ V_.heap L_ ∧ FrameEnd U_ o_ V_ L_ ({ frames := 1, cells := 0, slots := 0, locals := 14 } : Room).cells ({ frames := 1, cells := 0, slots := 0, locals := 14 } : Room).slots) := by
  refine MetFree.of_bodySF (plainFor_of_name pn_1) hisR ?_
  intro p e s m args below meth c s₁ Bd hml0 hP hK
  obtain ⟨rfl, hZ, hh⟩ := hP
  have hx := Bd.exec
  have hby := Bd.bytes
  have hml : c.maxLocals = 3 := hml0
  have hown : s.vm.findClass "java/lang/Long" = some m.cls := findClass_of_methodNamed Bd.named
  have hnm := (name_of_methodNamed Bd.named Bd.method).1
  have X0 : Stand p l e ({ frames := 1, cells := 0, slots := 0, locals := 14 } : Room) s m #[(.long a)] below meth c s₁ [] 0 0 := Stand.of_body Bd
  have e0 : s₁.heap = h0 := by rw [← hh, Bd.state]; rfl
  have N0 := Fr.nil n0
  refine Gl.go (A := s₁.setTop (entryFrame m #[(.long a)] 3)) (P := fun o_ U_ => ∃ v_ L_, o_ = .returned v_ ∧ Qnlzj Z a h0 n0 v_ U_.heap L_ ∧ FrameEnd s o_ U_ L_ ({ frames := 1, cells := 0, slots := 0, locals := 14 } : Room).cells ({ frames := 1, cells := 0, slots := 0, locals := 14 } : Room).slots) (fun t_ k_ => castTop (ef_nlzj m a) k_) ?_
  show Gl p.tables e below _ (s₁.setTop (mkF m 0 #[sJ a, sS, sU] []))
  refine Gl.go (fun _ hr => zXT_lloadN X0.here hx rfl (hb hby d10_0) rfl (zXS_bipush X0.here hx rfl (hb hby d10_1) (zXT_lushr X0.here hx rfl (hb hby d10_3) rfl (zXT_l2i X0.here hx rfl (hb hby d10_4) rfl (zXS_istoreN X0.here hx rfl (hb hby d10_5) rfl (l' := #[sJ a, sS, sI ((XT.ushrL a (32 : Int32)).toInt32)]) rfl (zXS_iloadN X0.here hx rfl (hb hby d10_6) rfl hr)))))) ?_
  by_cases hc53 : ((XT.ushrL a (32 : Int32)).toInt32) = (0 : Int32)
  · refine Gl.go (fun _ hr => zXS_ifNo X0.here hx rfl (hb hby d10_7) rfl (XT.i0_ne_f hc53) (zXS_bipush X0.here hx rfl (hb hby d10_10) (zXT_lloadN X0.here hx rfl (hb hby d10_12) rfl (zXT_l2i X0.here hx rfl (hb hby d10_13) rfl hr)))) ?_
    have zz54 : n0 ≤ h0.size := by omega
    refine gStaticN Gl.cl (y := (⟨"java/lang/Integer", "numberOfLeadingZeros", "(I)I"⟩ : MethodName)) (argsL := [(.int (a.toInt32))]) (rest := [(.int (32 : Int32))]) (mc := 0) (ms := 0) X0 hx hZ hown (mvT hZ (hw _ (List.mem_of_getElem? (i := 57) rfl))) (mvT hZ (hw _ (List.mem_of_getElem? (i := 58) rfl))) (mvT hZ (hw _ (List.mem_of_getElem? (i := 59) rfl))) (mvT hZ (hw _ (List.mem_of_getElem? (i := 60) rfl))) (by decide) (backOf (W := 1) (nlzi l Z a0 hw [] (a.toInt32) h0 n0 zz54 ) hZ (hw _ (List.mem_of_getElem? (i := 60) rfl)) (hw _ (List.mem_of_getElem? (i := 59) rfl)) (by decide) (by decide)) rfl (by rw [hml]; rfl) (lenOf pd_2 rfl) rfl (by show 2 * 0 + _ ≤ _; exact Nat.le_of_eq rfl) (hb hby d10_14) rfl e0 (by decide) (by decide) ?_
    intro v54 T54 Lc54 hQ54 X54
    obtain ⟨r_54, rfl, Nq54, e54, p54_nb⟩ := hQ54
    have N54 := Fr.app N0 Nq54
    refine Gl.go (fun _ hr => zXS_iadd X54.here hx rfl (hb hby d10_17) rfl (zXS_goto X54.here hx rfl (pc0 := 18) (pc' := 25) rfl (hb hby d10_18) (by decide) (by decide) hr)) ?_
    obtain ⟨fs, hr, hrun, hended, hW, hsame⟩ := X54.leave (v := some (.int ((32 : Int32) + r_54))) (fun h => by rw [Bd.returns] at h; cases h)
    refine ⟨_, _, retOut X54 hx Bd.returns rfl (Or.inl ⟨rfl, Or.inl rfl, _, rfl⟩) (hb hby d10_25) hr, hrun, hended, _, _, rfl, ?_, ⟨⟨_, rfl⟩, hW, hsame.mono (by decide) (by decide)⟩⟩
    show Qnlzj Z a h0 n0 _ T54.heap _
    rw [e54]
    exact ⟨((32 : Int32) + r_54), rfl, N54, rfl, (own_n32 p54_nb)⟩
  · refine Gl.go (fun _ hr => zXS_ifYes X0.here hx rfl (pc0 := 7) (pc' := 21) rfl (hb hby d10_7) rfl (XT.i0_ne_t hc53) (by decide) (by decide) (zXS_iloadN X0.here hx rfl (hb hby d10_21) rfl hr)) ?_
    have zz55 : n0 ≤ h0.size := by omega
    refine gStaticN Gl.cl (y := (⟨"java/lang/Integer", "numberOfLeadingZeros", "(I)I"⟩ : MethodName)) (argsL := [(.int ((XT.ushrL a (32 : Int32)).toInt32))]) (rest := []) (mc := 0) (ms := 0) X0 hx hZ hown (mvT hZ (hw _ (List.mem_of_getElem? (i := 57) rfl))) (mvT hZ (hw _ (List.mem_of_getElem? (i := 58) rfl))) (mvT hZ (hw _ (List.mem_of_getElem? (i := 59) rfl))) (mvT hZ (hw _ (List.mem_of_getElem? (i := 60) rfl))) (by decide) (backOf (W := 0) (nlzi l Z a0 hw [] ((XT.ushrL a (32 : Int32)).toInt32) h0 n0 zz55 ) hZ (hw _ (List.mem_of_getElem? (i := 60) rfl)) (hw _ (List.mem_of_getElem? (i := 59) rfl)) (by decide) (by decide)) rfl (by rw [hml]; rfl) (lenOf pd_2 rfl) rfl (by show 2 * 0 + _ ≤ _; exact Nat.le_of_eq rfl) (hb hby d10_22) rfl e0 (by decide) (by decide) ?_
    intro v55 T55 Lc55 hQ55 X55
    obtain ⟨r_55, rfl, Nq55, e55, p55_nb⟩ := hQ55
    have N55 := Fr.app N0 Nq55
    obtain ⟨fs, hr, hrun, hended, hW, hsame⟩ := X55.leave (v := some (.int r_55)) (fun h => by rw [Bd.returns] at h; cases h)
    refine ⟨_, _, retOut X55 hx Bd.returns rfl (Or.inl ⟨rfl, Or.inl rfl, _, rfl⟩) (hb hby d10_25) hr, hrun, hended, _, _, rfl, ?_, ⟨⟨_, rfl⟩, hW, hsame.mono (by decide) (by decide)⟩⟩
    show Qnlzj Z a h0 n0 _ T55.heap _
    rw [e55]
    exact ⟨r_55, rfl, N55, rfl, (own_n64 p55_nb)⟩
def Qnlzj0 (Z : State)  (h0 : Heap) (n0 : Nat) (v : Option Value) (h : Heap) (L : List Loc) : Prop := v = some (.int (64 : Int32)) ∧ Fr n0 L ∧ h = h0
theorem ef_nlzj0 (m : MethodId) (x0 : Int64) : entryFrame m #[(.long x0)] 3 = mkF m 0 #[sJ x0, sS, sU] [] := by first | (simp [entryFrame, mkF, argsToLocals, Value.category]; done) | rfl
set_option maxRecDepth 65536 in
set_option maxHeartbeats 40000000 in
theorem nlzj0 (l : Launch) (Z : State) (a0 : Array Value) (hw : ∀ d ∈ tables_1, d.before a0 Z = true) (ws : List Jvm.Cond)  (h0 : Heap) (n0 : Nat) (Z0 : n0 ≤ h0.size) :
    MetFree l (⟨"java/lang/Long", "numberOfLeadingZeros", "(J)I"⟩ : MethodName) (head1 (Jvm.Cond.code (⟨"java/lang/Long", "numberOfLeadingZeros", "(J)I"⟩ : MethodName) jdk_35_method_48_code 3 (some .int) :: ws) ({ frames := 1, cells := 0, slots := 0, locals := 14 } : Room)) (fun a_ U_ => a_ = #[(.long (0 : Int64))] ∧ Z.Warmed39 U_.vm ∧ U_.heap = h0) (fun _ _ _ _ _ => True) (fun _ U_ o_ V_ => ∃ v_ L_, o_ = .returned v_ ∧ Qnlzj0 Z  h0 n0 v_ V_.heap L_ ∧ FrameEnd U_ o_ V_ L_ ({ frames := 1, cells := 0, slots := 0, locals := 14 } : Room).cells ({ frames := 1, cells := 0, slots := 0, locals := 14 } : Room).slots) := by
  refine MetFree.of_bodySF (plainFor_of_name pn_1) hisR ?_
  intro p e s m args below meth c s₁ Bd hml0 hP hK
  obtain ⟨rfl, hZ, hh⟩ := hP
  have hx := Bd.exec
  have hby := Bd.bytes
  have hml : c.maxLocals = 3 := hml0
  have hown : s.vm.findClass "java/lang/Long" = some m.cls := findClass_of_methodNamed Bd.named
  have hnm := (name_of_methodNamed Bd.named Bd.method).1
  have X0 : Stand p l e ({ frames := 1, cells := 0, slots := 0, locals := 14 } : Room) s m #[(.long (0 : Int64))] below meth c s₁ [] 0 0 := Stand.of_body Bd
  have e0 : s₁.heap = h0 := by rw [← hh, Bd.state]; rfl
  have N0 := Fr.nil n0
  refine Gl.go (A := s₁.setTop (entryFrame m #[(.long (0 : Int64))] 3)) (P := fun o_ U_ => ∃ v_ L_, o_ = .returned v_ ∧ Qnlzj0 Z  h0 n0 v_ U_.heap L_ ∧ FrameEnd s o_ U_ L_ ({ frames := 1, cells := 0, slots := 0, locals := 14 } : Room).cells ({ frames := 1, cells := 0, slots := 0, locals := 14 } : Room).slots) (fun t_ k_ => castTop (ef_nlzj0 m (0 : Int64)) k_) ?_
  show Gl p.tables e below _ (s₁.setTop (mkF m 0 #[sJ 0, sS, sU] []))
  refine Gl.go (fun _ hr => zXT_lloadN X0.here hx rfl (hb hby d10_0) rfl (zXS_bipush X0.here hx rfl (hb hby d10_1) (zXT_lushr X0.here hx rfl (hb hby d10_3) rfl (zXT_l2i X0.here hx rfl (hb hby d10_4) rfl (zXS_istoreN X0.here hx rfl (hb hby d10_5) rfl (l' := #[sJ 0, sS, sI 0]) rfl (zXS_iloadN X0.here hx rfl (hb hby d10_6) rfl (zXS_ifNo X0.here hx rfl (hb hby d10_7) rfl (XT.i0_ne_f (by decide)) (zXS_bipush X0.here hx rfl (hb hby d10_10) (zXT_lloadN X0.here hx rfl (hb hby d10_12) rfl (zXT_l2i X0.here hx rfl (hb hby d10_13) rfl hr)))))))))) ?_
  have zz56 : n0 ≤ h0.size := by omega
  refine gStaticN Gl.cl (y := (⟨"java/lang/Integer", "numberOfLeadingZeros", "(I)I"⟩ : MethodName)) (argsL := [(.int (0 : Int32))]) (rest := [(.int (32 : Int32))]) (mc := 0) (ms := 0) X0 hx hZ hown (mvT hZ (hw _ (List.mem_of_getElem? (i := 57) rfl))) (mvT hZ (hw _ (List.mem_of_getElem? (i := 58) rfl))) (mvT hZ (hw _ (List.mem_of_getElem? (i := 59) rfl))) (mvT hZ (hw _ (List.mem_of_getElem? (i := 60) rfl))) (by decide) (backOf (W := 1) (nlzi0 l Z a0 hw []  h0 n0 zz56 ) hZ (hw _ (List.mem_of_getElem? (i := 60) rfl)) (hw _ (List.mem_of_getElem? (i := 59) rfl)) (by decide) (by decide)) rfl (by rw [hml]; rfl) (lenOf pd_2 rfl) rfl (by show 2 * 0 + _ ≤ _; exact Nat.le_of_eq rfl) (hb hby d10_14) rfl e0 (by decide) (by decide) ?_
  intro v56 T56 Lc56 hQ56 X56
  obtain ⟨rfl, Nq56, e56⟩ := hQ56
  have N56 := Fr.app N0 Nq56
  refine Gl.go (fun _ hr => zXS_iadd X56.here hx rfl (hb hby d10_17) rfl (zXS_goto X56.here hx rfl (pc0 := 18) (pc' := 25) rfl (hb hby d10_18) (by decide) (by decide) hr)) ?_
  obtain ⟨fs, hr, hrun, hended, hW, hsame⟩ := X56.leave (v := some (.int (64 : Int32))) (fun h => by rw [Bd.returns] at h; cases h)
  refine ⟨_, _, retOut X56 hx Bd.returns rfl (Or.inl ⟨rfl, Or.inl rfl, _, rfl⟩) (hb hby d10_25) hr, hrun, hended, _, _, rfl, ?_, ⟨⟨_, rfl⟩, hW, hsame.mono (by decide) (by decide)⟩⟩
  show Qnlzj0 Z  h0 n0 _ T56.heap _
  rw [e56]
  exact ⟨rfl, N56, rfl⟩
def Qpl00 (Z : State) (s0 : Int64) (s1 : Int64) (s2 : Int64) (s3 : Int64) (h0 : Heap) (n0 : Nat) (v : Option Value) (h : Heap) (L : List Loc) : Prop := v = some (.long s0) ∧ Fr n0 L ∧ h = h0
theorem ef_pl00 (m : MethodId) (x0 : Int32) (x1 : Int32) (x2 : Int64) (x3 : Int64) (x4 : Int64) (x5 : Int64) : entryFrame m #[(.int x0), (.int x1), (.long x2), (.long x3), (.long x4), (.long x5)] 10 = mkF m 0 #[sI x0, sI x1, sJ x2, sS, sJ x3, sS, sJ x4, sS, sJ x5, sS] [] := by first | (simp [entryFrame, mkF, argsToLocals, Value.category]; done) | rfl
theorem d12_0 : decode prog_96_method_9_code 0 = .ok (.iload_n 0, 1) := by decide +kernel
theorem d12_1 : decode prog_96_method_9_code 1 = .ok (.iload_n 1, 1) := by decide +kernel
theorem d12_2 : decode prog_96_method_9_code 2 = .ok (.isub, 1) := by decide +kernel
theorem d12_3 : decode prog_96_method_9_code 3 = .ok (.tableswitch 48 0 3 #[29, 33, 38, 43], 29) := by decide +kernel
theorem d12_32 : decode prog_96_method_9_code 32 = .ok (.lload_n 2, 1) := by decide +kernel
theorem d12_33 : decode prog_96_method_9_code 33 = .ok (.goto 19, 3) := by decide +kernel
theorem d12_52 : decode prog_96_method_9_code 52 = .ok (.lreturn, 1) := by decide +kernel
set_option maxRecDepth 65536 in
set_option maxHeartbeats 40000000 in
theorem pl00 (l : Launch) (Z : State) (a0 : Array Value) (hw : ∀ d ∈ tables_1, d.before a0 Z = true) (ws : List Jvm.Cond) (s0 : Int64) (s1 : Int64) (s2 : Int64) (s3 : Int64) (h0 : Heap) (n0 : Nat) (Z0 : n0 ≤ h0.size) :
    MetFree l (⟨"com/example/evenkeel/evenkeel/share/FlooredSum", "placed", "(IIJJJJ)J"⟩ : MethodName) (head1 (Jvm.Cond.code (⟨"com/example/evenkeel/evenkeel/share/FlooredSum", "placed", "(IIJJJJ)J"⟩ : MethodName) prog_96_method_9_code 10 (some .long) :: ws) ({ frames := 0, cells := 0, slots := 0, locals := 0 } : Room)) (fun a_ U_ => a_ = #[(.int (0 : Int32)), (.int (0 : Int32)), (.long s0), (.long s1), (.long s2), (.long s3)] ∧ Z.Warmed39 U_.vm ∧ U_.heap = h0) (fun _ _ _ _ _ => True) (fun _ U_ o_ V_ => ∃ v_ L_, o_ = .returned v_ ∧ Qpl00 Z s0 s1 s2 s3 h0 n0 v_ V_.heap L_ ∧ FrameEnd U_ o_ V_ L_ ({ frames := 0, cells := 0, slots := 0, locals := 0 } : Room).cells ({ frames := 0, cells := 0, slots := 0, locals := 0 } : Room).slots) := by
  refine MetFree.of_bodySF (plainFor_of_name pn_0) hisR ?_
  intro p e s m args below meth c s₁ Bd hml0 hP hK
  obtain ⟨rfl, hZ, hh⟩ := hP
  have hx := Bd.exec
  have hby := Bd.bytes
  have hml : c.maxLocals = 10 := hml0
  have hown : s.vm.findClass "com/example/evenkeel/evenkeel/share/FlooredSum" = some m.cls := findClass_of_methodNamed Bd.named
  have hnm := (name_of_methodNamed Bd.named Bd.method).1
  have X0 : Stand p l e ({ frames := 0, cells := 0, slots := 0, locals := 0 } : Room) s m #[(.int (0 : Int32)), (.int (0 : Int32)), (.long s0), (.long s1), (.long s2), (.long s3)] below meth c s₁ [] 0 0 := Stand.of_body Bd
  have e0 : s₁.heap = h0 := by rw [← hh, Bd.state]; rfl
  have N0 := Fr.nil n0
  refine Gl.go (A := s₁.setTop (entryFrame m #[(.int (0 : Int32)), (.int (0 : Int32)), (.long s0), (.long s1), (.long s2), (.long s3)] 10)) (P := fun o_ U_ => ∃ v_ L_, o_ = .returned v_ ∧ Qpl00 Z s0 s1 s2 s3 h0 n0 v_ U_.heap L_ ∧ FrameEnd s o_ U_ L_ ({ frames := 0, cells := 0, slots := 0, locals := 0 } : Room).cells ({ frames := 0, cells := 0, slots := 0, locals := 0 } : Room).slots) (fun t_ k_ => castTop (ef_pl00 m (0 : Int32) (0 : Int32) s0 s1 s2 s3) k_) ?_
  show Gl p.tables e below _ (s₁.setTop (mkF m 0 #[sI 0, sI 0, sJ s0, sS, sJ s1, sS, sJ s2, sS, sJ s3, sS] []))
  refine Gl.go (fun _ hr => zXS_iloadN X0.here hx rfl (hb hby d12_0) rfl (zXS_iloadN X0.here hx rfl (hb hby d12_1) rfl (zXS_isub X0.here hx rfl (hb hby d12_2) rfl (zXS_tswIn X0.here hx rfl (pc0 := 3) (pc' := 32) rfl (hb hby d12_3) rfl (by decide) (o := 29) (by decide) (by decide) (by decide) (zXT_lloadN X0.here hx rfl (hb hby d12_32) rfl (zXS_goto X0.here hx rfl (pc0 := 33) (pc' := 52) rfl (hb hby d12_33) (by decide) (by decide) hr)))))) ?_
  obtain ⟨fs, hr, hrun, hended, hW, hsame⟩ := X0.leave (v := some (.long s0)) (fun h => by rw [Bd.returns] at h; cases h)
  refine ⟨_, _, retOut X0 hx Bd.returns rfl (Or.inr (Or.inl ⟨rfl, rfl, _, rfl⟩)) (hb hby d12_52) hr, hrun, hended, _, _, rfl, ?_, ⟨⟨_, rfl⟩, hW, hsame.mono (by decide) (by decide)⟩⟩
  show Qpl00 Z s0 s1 s2 s3 h0 n0 _ s₁.heap _
  rw [e0]
  exact ⟨rfl, N0, rfl⟩
def Qpl10 (Z : State) (s0 : Int64) (s1 : Int64) (s2 : Int64) (s3 : Int64) (h0 : Heap) (n0 : Nat) (v : Option Value) (h : Heap) (L : List Loc) : Prop := v = some (.long s1) ∧ Fr n0 L ∧ h = h0
theorem ef_pl10 (m : MethodId) (x0 : Int32) (x1 : Int32) (x2 : Int64) (x3 : Int64) (x4 : Int64) (x5 : Int64) : entryFrame m #[(.int x0), (.int x1), (.long x2), (.long x3), (.long x4), (.long x5)] 10 = mkF m 0 #[sI x0, sI x1, sJ x2, sS, sJ x3, sS, sJ x4, sS, sJ x5, sS] [] := by first | (simp [entryFrame, mkF, argsToLocals, Value.category]; done) | rfl
theorem d12_36 : decode prog_96_method_9_code 36 = .ok (.lload 4, 2) := by decide +kernel
theorem d12_38 : decode prog_96_method_9_code 38 = .ok (.goto 14, 3) := by decide +kernel
set_option maxRecDepth 65536 in
set_option maxHeartbeats 40000000 in
theorem pl10 (l : Launch) (Z : State) (a0 : Array Value) (hw : ∀ d ∈ tables_1, d.before a0 Z = true) (ws : List Jvm.Cond) (s0 : Int64) (s1 : Int64) (s2 : Int64) (s3 : Int64) (h0 : Heap) (n0 : Nat) (Z0 : n0 ≤ h0.size) :
    MetFree l (⟨"com/example/evenkeel/evenkeel/share/FlooredSum", "placed", "(IIJJJJ)J"⟩ : MethodName) (head1 (Jvm.Cond.code (⟨"com/example/evenkeel/evenkeel/share/FlooredSum", "placed", "(IIJJJJ)J"⟩ : MethodName) prog_96_method_9_code 10 (some .long) :: ws) ({ frames := 0, cells := 0, slots := 0, locals := 0 } : Room)) (fun a_ U_ => a_ = #[(.int (1 : Int32)), (.int (0 : Int32)), (.long s0), (.long s1), (.long s2), (.long s3)] ∧ Z.Warmed39 U_.vm ∧ U_.heap = h0) (fun _ _ _ _ _ => True) (fun _ U_ o_ V_ => ∃ v_ L_, o_ = .returned v_ ∧ Qpl10 Z s0 s1 s2 s3 h0 n0 v_ V_.heap L_ ∧ FrameEnd U_ o_ V_ L_ ({ frames := 0, cells := 0, slots := 0, locals := 0 } : Room).cells ({ frames := 0, cells := 0, slots := 0, locals := 0 } : Room).slots) := by
  refine MetFree.of_bodySF (plainFor_of_name pn_0) hisR ?_
  intro p e s m args below meth c s₁ Bd hml0 hP hK
  obtain ⟨rfl, hZ, hh⟩ := hP
  have hx := Bd.exec
  have hby := Bd.bytes
  have hml : c.maxLocals = 10 := hml0
  have hown : s.vm.findClass "com/example/evenkeel/evenkeel/share/FlooredSum" = some m.cls := findClass_of_methodNamed Bd.named
  have hnm := (name_of_methodNamed Bd.named Bd.method).1
  have X0 : Stand p l e ({ frames := 0, cells := 0, slots := 0, locals := 0 } : Room) s m #[(.int (1 : Int32)), (.int (0 : Int32)), (.long s0), (.long s1), (.long s2), (.long s3)] below meth c s₁ [] 0 0 := Stand.of_body Bd
  have e0 : s₁.heap = h0 := by rw [← hh, Bd.state]; rfl
  have N0 := Fr.nil n0
  refine Gl.go (A := s₁.setTop (entryFrame m #[(.int (1 : Int32)), (.int (0 : Int32)), (.long s0), (.long s1), (.long s2), (.long s3)] 10)) (P := fun o_ U_ => ∃ v_ L_, o_ = .returned v_ ∧ Qpl10 Z s0 s1 s2 s3 h0 n0 v_ U_.heap L_ ∧ FrameEnd s o_ U_ L_ ({ frames := 0, cells := 0, slots := 0, locals := 0 } : Room).cells ({ frames := 0, cells := 0, slots := 0, locals := 0 } : Room).slots) (fun t_ k_ => castTop (ef_pl10 m (1 : Int32) (0 : Int32) s0 s1 s2 s3) k_) ?_
  show Gl p.tables e below _ (s₁.setTop (mkF m 0 #[sI 1, sI 0, sJ s0, sS, sJ s1, sS, sJ s2, sS, sJ s3, sS] []))
  refine Gl.go (fun _ hr => zXS_iloadN X0.here hx rfl (hb hby d12_0) rfl (zXS_iloadN X0.here hx rfl (hb hby d12_1) rfl (zXS_isub X0.here hx rfl (hb hby d12_2) rfl (zXS_tswIn X0.here hx rfl (pc0 := 3) (pc' := 36) rfl (hb hby d12_3) rfl (by decide) (o := 33) (by decide) (by decide) (by decide) (zXT_lload X0.here hx rfl (hb hby d12_36) rfl (zXS_goto X0.here hx rfl (pc0 := 38) (pc' := 52) rfl (hb hby d12_38) (by decide) (by decide) hr)))))) ?_
  obtain ⟨fs, hr, hrun, hended, hW, hsame⟩ := X0.leave (v := some (.long s1)) (fun h => by rw [Bd.returns] at h; cases h)
  refine ⟨_, _, retOut X0 hx Bd.returns rfl (Or.inr (Or.inl ⟨rfl, rfl, _, rfl⟩)) (hb hby d12_52) hr, hrun, hended, _, _, rfl, ?_, ⟨⟨_, rfl⟩, hW, hsame.mono (by decide) (by decide)⟩⟩
  show Qpl10 Z s0 s1 s2 s3 h0 n0 _ s₁.heap _
  rw [e0]
  exact ⟨rfl, N0, rfl⟩
def Qpl20 (Z : State) (s0 : Int64) (s1 : Int64) (s2 : Int64) (s3 : Int64) (h0 : Heap) (n0 : Nat) (v : Option Value) (h : Heap) (L : List Loc) : Prop := v = some (.long s2) ∧ Fr n0 L ∧ h = h0
theorem ef_pl20 (m : MethodId) (x0 : Int32) (x1 : Int32) (x2 : Int64) (x3 : Int64) (x4 : Int64) (x5 : Int64) : entryFrame m #[(.int x0), (.int x1), (.long x2), (.long x3), (.long x4), (.long x5)] 10 = mkF m 0 #[sI x0, sI x1, sJ x2, sS, sJ x3, sS, sJ x4, sS, sJ x5, sS] [] := by first | (simp [entryFrame, mkF, argsToLocals, Value.category]; done) | rfl
theorem d12_41 : decode prog_96_method_9_code 41 = .ok (.lload 6, 2) := by decide +kernel
theorem d12_43 : decode prog_96_method_9_code 43 = .ok (.goto 9, 3) := by decide +kernel
set_option maxRecDepth 65536 in
set_option maxHeartbeats 40000000 in
theorem pl20 (l : Launch) (Z : State) (a0 : Array Value) (hw : ∀ d ∈ tables_1, d.before a0 Z = true) (ws : List Jvm.Cond) (s0 : Int64) (s1 : Int64) (s2 : Int64) (s3 : Int64) (h0 : Heap) (n0 : Nat) (Z0 : n0 ≤ h0.size) :
    MetFree l (⟨"com/example/evenkeel/evenkeel/share/FlooredSum", "placed", "(IIJJJJ)J"⟩ : MethodName) (head1 (Jvm.Cond.code (⟨"com/example/evenkeel/evenkeel/share/FlooredSum", "placed", "(IIJJJJ)J"⟩ : MethodName) prog_96_method_9_code 10 (some .long) :: ws) ({ frames := 0, cells := 0, slots := 0, locals := 0 } : Room)) (fun a_ U_ => a_ = #[(.int (2 : Int32)), (.int (0 : Int32)), (.long s0), (.long s1), (.long s2), (.long s3)] ∧ Z.Warmed39 U_.vm ∧ U_.heap = h0) (fun _ _ _ _ _ => True) (fun _ U_ o_ V_ => ∃ v_ L_, o_ = .returned v_ ∧ Qpl20 Z s0 s1 s2 s3 h0 n0 v_ V_.heap L_ ∧ FrameEnd U_ o_ V_ L_ ({ frames := 0, cells := 0, slots := 0, locals := 0 } : Room).cells ({ frames := 0, cells := 0, slots := 0, locals := 0 } : Room).slots) := by
  refine MetFree.of_bodySF (plainFor_of_name pn_0) hisR ?_
  intro p e s m args below meth c s₁ Bd hml0 hP hK
  obtain ⟨rfl, hZ, hh⟩ := hP
  have hx := Bd.exec
  have hby := Bd.bytes
  have hml : c.maxLocals = 10 := hml0
  have hown : s.vm.findClass "com/example/evenkeel/evenkeel/share/FlooredSum" = some m.cls := findClass_of_methodNamed Bd.named
  have hnm := (name_of_methodNamed Bd.named Bd.method).1
  have X0 : Stand p l e ({ frames := 0, cells := 0, slots := 0, locals := 0 } : Room) s m #[(.int (2 : Int32)), (.int (0 : Int32)), (.long s0), (.long s1), (.long s2), (.long s3)] below meth c s₁ [] 0 0 := Stand.of_body Bd
  have e0 : s₁.heap = h0 := by rw [← hh, Bd.state]; rfl
  have N0 := Fr.nil n0
  refine Gl.go (A := s₁.setTop (entryFrame m #[(.int (2 : Int32)), (.int (0 : Int32)), (.long s0), (.long s1), (.long s2), (.long s3)] 10)) (P := fun o_ U_ => ∃ v_ L_, o_ = .returned v_ ∧ Qpl20 Z s0 s1 s2 s3 h0 n0 v_ U_.heap L_ ∧ FrameEnd s o_ U_ L_ ({ frames := 0, cells := 0, slots := 0, locals := 0 } : Room).cells ({ frames := 0, cells := 0, slots := 0, locals := 0 } : Room).slots) (fun t_ k_ => castTop (ef_pl20 m (2 : Int32) (0 : Int32) s0 s1 s2 s3) k_) ?_
  show Gl p.tables e below _ (s₁.setTop (mkF m 0 #[sI 2, sI 0, sJ s0, sS, sJ s1, sS, sJ s2, sS, sJ s3, sS] []))
  refine Gl.go (fun _ hr => zXS_iloadN X0.here hx rfl (hb hby d12_0) rfl (zXS_iloadN X0.here hx rfl (hb hby d12_1) rfl (zXS_isub X0.here hx rfl (hb hby d12_2) rfl (zXS_tswIn X0.here hx rfl (pc0 := 3) (pc' := 41) rfl (hb hby d12_3) rfl (by decide) (o := 38) (by decide) (by decide) (by decide) (zXT_lload X0.here hx rfl (hb hby d12_41) rfl (zXS_goto X0.here hx rfl (pc0 := 43) (pc' := 52) rfl (hb hby d12_43) (by decide) (by decide) hr)))))) ?_
  obtain ⟨fs, hr, hrun, hended, hW, hsame⟩ := X0.leave (v := some (.long s2)) (fun h => by rw [Bd.returns] at h; cases h)
  refine ⟨_, _, retOut X0 hx Bd.returns rfl (Or.inr (Or.inl ⟨rfl, rfl, _, rfl⟩)) (hb hby d12_52) hr, hrun, hended, _, _, rfl, ?_, ⟨⟨_, rfl⟩, hW, hsame.mono (by decide) (by decide)⟩⟩
  show Qpl20 Z s0 s1 s2 s3 h0 n0 _ s₁.heap _
  rw [e0]
  exact ⟨rfl, N0, rfl⟩
def Qpl30 (Z : State) (s0 : Int64) (s1 : Int64) (s2 : Int64) (s3 : Int64) (h0 : Heap) (n0 : Nat) (v : Option Value) (h : Heap) (L : List Loc) : Prop := v = some (.long s3) ∧ Fr n0 L ∧ h = h0
theorem ef_pl30 (m : MethodId) (x0 : Int32) (x1 : Int32) (x2 : Int64) (x3 : Int64) (x4 : Int64) (x5 : Int64) : entryFrame m #[(.int x0), (.int x1), (.long x2), (.long x3), (.long x4), (.long x5)] 10 = mkF m 0 #[sI x0, sI x1, sJ x2, sS, sJ x3, sS, sJ x4, sS, sJ x5, sS] [] := by first | (simp [entryFrame, mkF, argsToLocals, Value.category]; done) | rfl
theorem d12_46 : decode prog_96_method_9_code 46 = .ok (.lload 8, 2) := by decide +kernel
theorem d12_48 : decode prog_96_method_9_code 48 = .ok (.goto 4, 3) := by decide +kernel
set_option maxRecDepth 65536 in
set_option maxHeartbeats 40000000 in
theorem pl30 (l : Launch) (Z : State) (a0 : Array Value) (hw : ∀ d ∈ tables_1, d.before a0 Z = true) (ws : List Jvm.Cond) (s0 : Int64) (s1 : Int64) (s2 : Int64) (s3 : Int64) (h0 : Heap) (n0 : Nat) (Z0 : n0 ≤ h0.size) :
    MetFree l (⟨"com/example/evenkeel/evenkeel/share/FlooredSum", "placed", "(IIJJJJ)J"⟩ : MethodName) (head1 (Jvm.Cond.code (⟨"com/example/evenkeel/evenkeel/share/FlooredSum", "placed", "(IIJJJJ)J"⟩ : MethodName) prog_96_method_9_code 10 (some .long) :: ws) ({ frames := 0, cells := 0, slots := 0, locals := 0 } : Room)) (fun a_ U_ => a_ = #[(.int (3 : Int32)), (.int (0 : Int32)), (.long s0), (.long s1), (.long s2), (.long s3)] ∧ Z.Warmed39 U_.vm ∧ U_.heap = h0) (fun _ _ _ _ _ => True) (fun _ U_ o_ V_ => ∃ v_ L_, o_ = .returned v_ ∧ Qpl30 Z s0 s1 s2 s3 h0 n0 v_ V_.heap L_ ∧ FrameEnd U_ o_ V_ L_ ({ frames := 0, cells := 0, slots := 0, locals := 0 } : Room).cells ({ frames := 0, cells := 0, slots := 0, locals := 0 } : Room).slots) := by
  refine MetFree.of_bodySF (plainFor_of_name pn_0) hisR ?_
  intro p e s m args below meth c s₁ Bd hml0 hP hK
  obtain ⟨rfl, hZ, hh⟩ := hP
  have hx := Bd.exec
  have hby := Bd.bytes
  have hml : c.maxLocals = 10 := hml0
  have hown : s.vm.findClass "com/example/evenkeel/evenkeel/share/FlooredSum" = some m.cls := findClass_of_methodNamed Bd.named
  have hnm := (name_of_methodNamed Bd.named Bd.method).1
  have X0 : Stand p l e ({ frames := 0, cells := 0, slots := 0, locals := 0 } : Room) s m #[(.int (3 : Int32)), (.int (0 : Int32)), (.long s0), (.long s1), (.long s2), (.long s3)] below meth c s₁ [] 0 0 := Stand.of_body Bd
  have e0 : s₁.heap = h0 := by rw [← hh, Bd.state]; rfl
  have N0 := Fr.nil n0
  refine Gl.go (A := s₁.setTop (entryFrame m #[(.int (3 : Int32)), (.int (0 : Int32)), (.long s0), (.long s1), (.long s2), (.long s3)] 10)) (P := fun o_ U_ => ∃ v_ L_, o_ = .returned v_ ∧ Qpl30 Z s0 s1 s2 s3 h0 n0 v_ U_.heap L_ ∧ FrameEnd s o_ U_ L_ ({ frames := 0, cells := 0, slots := 0, locals := 0 } : Room).cells ({ frames := 0, cells := 0, slots := 0, locals := 0 } : Room).slots) (fun t_ k_ => castTop (ef_pl30 m (3 : Int32) (0 : Int32) s0 s1 s2 s3) k_) ?_
  show Gl p.tables e below _ (s₁.setTop (mkF m 0 #[sI 3, sI 0, sJ s0, sS, sJ s1, sS, sJ s2, sS, sJ s3, sS] []))
  refine Gl.go (fun _ hr => zXS_iloadN X0.here hx rfl (hb hby d12_0) rfl (zXS_iloadN X0.here hx rfl (hb hby d12_1) rfl (zXS_isub X0.here hx rfl (hb hby d12_2) rfl (zXS_tswIn X0.here hx rfl (pc0 := 3) (pc' := 46) rfl (hb hby d12_3) rfl (by decide) (o := 43) (by decide) (by decide) (by decide) (zXT_lload X0.here hx rfl (hb hby d12_46) rfl (zXS_goto X0.here hx rfl (pc0 := 48) (pc' := 52) rfl (hb hby d12_48) (by decide) (by decide) hr)))))) ?_
  obtain ⟨fs, hr, hrun, hended, hW, hsame⟩ := X0.leave (v := some (.long s3)) (fun h => by rw [Bd.returns] at h; cases h)
  refine ⟨_, _, retOut X0 hx Bd.returns rfl (Or.inr (Or.inl ⟨rfl, rfl, _, rfl⟩)) (hb hby d12_52) hr, hrun, hended, _, _, rfl, ?_, ⟨⟨_, rfl⟩, hW, hsame.mono (by decide) (by decide)⟩⟩
  show Qpl30 Z s0 s1 s2 s3 h0 n0 _ s₁.heap _
  rw [e0]
  exact ⟨rfl, N0, rfl⟩
def Qpl01 (Z : State) (s0 : Int64) (s1 : Int64) (s2 : Int64) (s3 : Int64) (h0 : Heap) (n0 : Nat) (v : Option Value) (h : Heap) (L : List Loc) : Prop := v = some (.long (0 : Int64)) ∧ Fr n0 L ∧ h = h0
theorem ef_pl01 (m : MethodId) (x0 : Int32) (x1 : Int32) (x2 : Int64) (x3 : Int64) (x4 : Int64) (x5 : Int64) : entryFrame m #[(.int x0), (.int x1), (.long x2), (.long x3), (.long x4), (.long x5)] 10 = mkF m 0 #[sI x0, sI x1, sJ x2, sS, sJ x3, sS, sJ x4, sS, sJ x5, sS] [] := by first | (simp [entryFrame, mkF, argsToLocals, Value.category]; done) | rfl
theorem d12_51 : decode prog_96_method_9_code 51 = .ok (.lconst 0, 1) := by decide +kernel
set_option maxRecDepth 65536 in
set_option maxHeartbeats 40000000 in
theorem pl01 (l : Launch) (Z : State) (a0 : Array Value) (hw : ∀ d ∈ tables_1, d.before a0 Z = true) (ws : List Jvm.Cond) (s0 : Int64) (s1 : Int64) (s2 : Int64) (s3 : Int64) (h0 : Heap) (n0 : Nat) (Z0 : n0 ≤ h0.size) :
    MetFree l (⟨"com/example/evenkeel/evenkeel/share/FlooredSum", "placed", "(IIJJJJ)J"⟩ : MethodName) (head1 (Jvm.Cond.code (⟨"com/example/evenkeel/evenkeel/share/FlooredSum", "placed", "(IIJJJJ)J"⟩ : MethodName) prog_96_method_9_code 10 (some .long) :: ws) ({ frames := 0, cells := 0, slots := 0, locals := 0 } : Room)) (fun a_ U_ => a_ = #[(.int (0 : Int32)), (.int (1 : Int32)), (.long s0), (.long s1), (.long s2), (.long s3)] ∧ Z.Warmed39 U_.vm ∧ U_.heap = h0) (fun _ _ _ _ _ => True) (fun _ U_ o_ V_ => ∃ v_ L_, o_ = .returned v_ ∧ Qpl01 Z s0 s1 s2 s3 h0 n0 v_ V_.heap L_ ∧ FrameEnd U_ o_ V_ L_ ({ frames := 0, cells := 0, slots := 0, locals := 0 } : Room).cells ({ frames := 0, cells := 0, slots := 0, locals := 0 } : Room).slots) := by
  refine MetFree.of_bodySF (plainFor_of_name pn_0) hisR ?_
  intro p e s m args below meth c s₁ Bd hml0 hP hK
  obtain ⟨rfl, hZ, hh⟩ := hP
  have hx := Bd.exec
  have hby := Bd.bytes
  have hml : c.maxLocals = 10 := hml0
  have hown : s.vm.findClass "com/example/evenkeel/evenkeel/share/FlooredSum" = some m.cls := findClass_of_methodNamed Bd.named
  have hnm := (name_of_methodNamed Bd.named Bd.method).1
  have X0 : Stand p l e ({ frames := 0, cells := 0, slots := 0, locals := 0 } : Room) s m #[(.int (0 : Int32)), (.int (1 : Int32)), (.long s0), (.long s1), (.long s2), (.long s3)] below meth c s₁ [] 0 0 := Stand.of_body Bd
  have e0 : s₁.heap = h0 := by rw [← hh, Bd.state]; rfl
  have N0 := Fr.nil n0
  refine Gl.go (A := s₁.setTop (entryFrame m #[(.int (0 : Int32)), (.int (1 : Int32)), (.long s0), (.long s1), (.long s2), (.long s3)] 10)) (P := fun o_ U_ => ∃ v_ L_, o_ = .returned v_ ∧ Qpl01 Z s0 s1 s2 s3 h0 n0 v_ U_.heap L_ ∧ FrameEnd s o_ U_ L_ ({ frames := 0, cells := 0, slots := 0, locals := 0 } : Room).cells ({ frames := 0, cells := 0, slots := 0, locals := 0 } : Room).slots) (fun t_ k_ => castTop (ef_pl01 m (0 : Int32) (1 : Int32) s0 s1 s2 s3) k_) ?_
  show Gl p.tables e below _ (s₁.setTop (mkF m 0 #[sI 0, sI 1, sJ s0, sS, sJ s1, sS, sJ s2, sS, sJ s3, sS] []))
  refine Gl.go (fun _ hr => zXS_iloadN X0.here hx rfl (hb hby d12_0) rfl (zXS_iloadN X0.here hx rfl (hb hby d12_1) rfl (zXS_isub X0.here hx rfl (hb hby d12_2) rfl (zXS_tswOut X0.here hx rfl (pc0 := 3) (pc' := 51) rfl (hb hby d12_3) rfl (by decide) (by decide) (by decide) (zXT_lconst X0.here hx rfl (hb hby d12_51) hr))))) ?_
  obtain ⟨fs, hr, hrun, hended, hW, hsame⟩ := X0.leave (v := some (.long (0 : Int64))) (fun h => by rw [Bd.returns] at h; cases h)
  refine ⟨_, _, retOut X0 hx Bd.returns rfl (Or.inr (Or.inl ⟨rfl, rfl, _, rfl⟩)) (hb hby d12_52) hr, hrun, hended, _, _, rfl, ?_, ⟨⟨_, rfl⟩, hW, hsame.mono (by decide) (by decide)⟩⟩
  show Qpl01 Z s0 s1 s2 s3 h0 n0 _ s₁.heap _
  rw [e0]
  exact ⟨rfl, N0, rfl⟩
def Qpl11 (Z : State) (s0 : Int64) (s1 : Int64) (s2 : Int64) (s3 : Int64) (h0 : Heap) (n0 : Nat) (v : Option Value) (h : Heap) (L : List Loc) : Prop := v = some (.long s0) ∧ Fr n0 L ∧ h = h0
theorem ef_pl11 (m : MethodId) (x0 : Int32) (x1 : Int32) (x2 : Int64) (x3 : Int64) (x4 : Int64) (x5 : Int64) : entryFrame m #[(.int x0), (.int x1), (.long x2), (.long x3), (.long x4), (.long x5)] 10 = mkF m 0 #[sI x0, sI x1, sJ x2, sS, sJ x3, sS, sJ x4, sS, sJ x5, sS] [] := by first | (simp [entryFrame, mkF, argsToLocals, Value.category]; done) | rfl
set_option maxRecDepth 65536 in
set_option maxHeartbeats 40000000 in
theorem pl11 (l : Launch) (Z : State) (a0 : Array Value) (hw : ∀ d ∈ tables_1, d.before a0 Z = true) (ws : List Jvm.Cond) (s0 : Int64) (s1 : Int64) (s2 : Int64) (s3 : Int64) (h0 : Heap) (n0 : Nat) (Z0 : n0 ≤ h0.size) :
    MetFree l (⟨"com/example/evenkeel/evenkeel/share/FlooredSum", "placed", "(IIJJJJ)J"⟩ : MethodName) (head1 (Jvm.Cond.code (⟨"com/example/evenkeel/evenkeel/share/FlooredSum", "placed", "(IIJJJJ)J"⟩ : MethodName) prog_96_method_9_code 10 (some .long) :: ws) ({ frames := 0, cells := 0, slots := 0, locals := 0 } : Room)) (fun a_ U_ => a_ = #[(.int (1 : Int32)), (.int (1 : Int32)), (.long s0), (.long s1), (.long s2), (.long s3)] ∧ Z.Warmed39 U_.vm ∧ U_.heap = h0) (fun _ _ _ _ _ => True) (fun _ U_ o_ V_ => ∃ v_ L_, o_ = .returned v_ ∧ Qpl11 Z s0 s1 s2 s3 h0 n0 v_ V_.heap L_ ∧ FrameEnd U_ o_ V_ L_ ({ frames := 0, cells := 0, slots := 0, locals := 0 } : Room).cells ({ frames := 0, cells := 0, slots := 0, locals := 0 } : Room).slots) := by
  refine MetFree.of_bodySF (plainFor_of_name pn_0) hisR ?_
  intro p e s m args below meth c s₁ Bd hml0 hP hK
  obtain ⟨rfl, hZ, hh⟩ := hP
  have hx := Bd.exec
  have hby := Bd.bytes
  have hml : c.maxLocals = 10 := hml0
  have hown : s.vm.findClass "com/example/evenkeel/evenkeel/share/FlooredSum" = some m.cls := findClass_of_methodNamed Bd.named
  have hnm := (name_of_methodNamed Bd.named Bd.method).1
  have X0 : Stand p l e ({ frames := 0, cells := 0, slots := 0, locals := 0 } : Room) s m #[(.int (1 : Int32)), (.int (1 : Int32)), (.long s0), (.long s1), (.long s2), (.long s3)] below meth c s₁ [] 0 0 := Stand.of_body Bd
  have e0 : s₁.heap = h0 := by rw [← hh, Bd.state]; rfl
  have N0 := Fr.nil n0
  refine Gl.go (A := s₁.setTop (entryFrame m #[(.int (1 : Int32)), (.int (1 : Int32)), (.long s0), (.long s1), (.long s2), (.long s3)] 10)) (P := fun o_ U_ => ∃ v_ L_, o_ = .returned v_ ∧ Qpl11 Z s0 s1 s2 s3 h0 n0 v_ U_.heap L_ ∧ FrameEnd s o_ U_ L_ ({ frames := 0, cells := 0, slots := 0, locals := 0 } : Room).cells ({ frames := 0, cells := 0, slots := 0, locals := 0 } : Room).slots) (fun t_ k_ => castTop (ef_pl11 m (1 : Int32) (1 : Int32) s0 s1 s2 s3) k_) ?_
  show Gl p.tables e below _ (s₁.setTop (mkF m 0 #[sI 1, sI 1, sJ s0, sS, sJ s1, sS, sJ s2, sS, sJ s3, sS] []))
  refine Gl.go (fun _ hr => zXS_iloadN X0.here hx rfl (hb hby d12_0) rfl (zXS_iloadN X0.here hx rfl (hb hby d12_1) rfl (zXS_isub X0.here hx rfl (hb hby d12_2) rfl (zXS_tswIn X0.here hx rfl (pc0 := 3) (pc' := 32) rfl (hb hby d12_3) rfl (by decide) (o := 29) (by decide) (by decide) (by decide) (zXT_lloadN X0.here hx rfl (hb hby d12_32) rfl (zXS_goto X0.here hx rfl (pc0 := 33) (pc' := 52) rfl (hb hby d12_33) (by decide) (by decide) hr)))))) ?_
  obtain ⟨fs, hr, hrun, hended, hW, hsame⟩ := X0.leave (v := some (.long s0)) (fun h => by rw [Bd.returns] at h; cases h)
  refine ⟨_, _, retOut X0 hx Bd.returns rfl (Or.inr (Or.inl ⟨rfl, rfl, _, rfl⟩)) (hb hby d12_52) hr, hrun, hended, _, _, rfl, ?_, ⟨⟨_, rfl⟩, hW, hsame.mono (by decide) (by decide)⟩⟩
  show Qpl11 Z s0 s1 s2 s3 h0 n0 _ s₁.heap _
  rw [e0]
  exact ⟨rfl, N0, rfl⟩
def Qpl21 (Z : State) (s0 : Int64) (s1 : Int64) (s2 : Int64) (s3 : Int64) (h0 : Heap) (n0 : Nat) (v : Option Value) (h : Heap) (L : List Loc) : Prop := v = some (.long s1) ∧ Fr n0 L ∧ h = h0
theorem ef_pl21 (m : MethodId) (x0 : Int32) (x1 : Int32) (x2 : Int64) (x3 : Int64) (x4 : Int64) (x5 : Int64) : entryFrame m #[(.int x0), (.int x1), (.long x2), (.long x3), (.long x4), (.long x5)] 10 = mkF m 0 #[sI x0, sI x1, sJ x2, sS, sJ x3, sS, sJ x4, sS, sJ x5, sS] [] := by first | (simp [entryFrame, mkF, argsToLocals, Value.category]; done) | rfl
set_option maxRecDepth 65536 in
set_option maxHeartbeats 40000000 in
theorem pl21 (l : Launch) (Z : State) (a0 : Array Value) (hw : ∀ d ∈ tables_1, d.before a0 Z = true) (ws : List Jvm.Cond) (s0 : Int64) (s1 : Int64) (s2 : Int64) (s3 : Int64) (h0 : Heap) (n0 : Nat) (Z0 : n0 ≤ h0.size) :
    MetFree l (⟨"com/example/evenkeel/evenkeel/share/FlooredSum", "placed", "(IIJJJJ)J"⟩ : MethodName) (head1 (Jvm.Cond.code (⟨"com/example/evenkeel/evenkeel/share/FlooredSum", "placed", "(IIJJJJ)J"⟩ : MethodName) prog_96_method_9_code 10 (some .long) :: ws) ({ frames := 0, cells := 0, slots := 0, locals := 0 } : Room)) (fun a_ U_ => a_ = #[(.int (2 : Int32)), (.int (1 : Int32)), (.long s0), (.long s1), (.long s2), (.long s3)] ∧ Z.Warmed39 U_.vm ∧ U_.heap = h0) (fun _ _ _ _ _ => True) (fun _ U_ o_ V_ => ∃ v_ L_, o_ = .returned v_ ∧ Qpl21 Z s0 s1 s2 s3 h0 n0 v_ V_.heap L_ ∧ FrameEnd U_ o_ V_ L_ ({ frames := 0, cells := 0, slots := 0, locals := 0 } : Room).cells ({ frames := 0, cells := 0, slots := 0, locals := 0 } : Room).slots) := by
  refine MetFree.of_bodySF (plainFor_of_name pn_0) hisR ?_
  intro p e s m args below meth c s₁ Bd hml0 hP hK
  obtain ⟨rfl, hZ, hh⟩ := hP
  have hx := Bd.exec
  have hby := Bd.bytes
  have hml : c.maxLocals = 10 := hml0
  have hown : s.vm.findClass "com/example/evenkeel/evenkeel/share/FlooredSum" = some m.cls := findClass_of_methodNamed Bd.named
  have hnm := (name_of_methodNamed Bd.named Bd.method).1
  have X0 : Stand p l e ({ frames := 0, cells := 0, slots := 0, locals := 0 } : Room) s m #[(.int (2 : Int32)), (.int (1 : Int32)), (.long s0), (.long s1), (.long s2), (.long s3)] below meth c s₁ [] 0 0 := Stand.of_body Bd
  have e0 : s₁.heap = h0 := by rw [← hh, Bd.state]; rfl
  have N0 := Fr.nil n0
  refine Gl.go (A := s₁.setTop (entryFrame m #[(.int (2 : Int32)), (.int (1 : Int32)), (.long s0), (.long s1), (.long s2), (.long s3)] 10)) (P := fun o_ U_ => ∃ v_ L_, o_ = .returned v_ ∧ Qpl21 Z s0 s1 s2 s3 h0 n0 v_ U_.heap L_ ∧ FrameEnd s o_ U_ L_ ({ frames := 0, cells := 0, slots := 0, locals := 0 } : Room).cells ({ frames := 0, cells := 0, slots := 0, locals := 0 } : Room).slots) (fun t_ k_ => castTop (ef_pl21 m (2 : Int32) (1 : Int32) s0 s1 s2 s3) k_) ?_
  show Gl p.tables e below _ (s₁.setTop (mkF m 0 #[sI 2, sI 1, sJ s0, sS, sJ s1, sS, sJ s2, sS, sJ s3, sS] []))
  refine Gl.go (fun _ hr => zXS_iloadN X0.here hx rfl (hb hby d12_0) rfl (zXS_iloadN X0.here hx rfl (hb hby d12_1) rfl (zXS_isub X0.here hx rfl (hb hby d12_2) rfl (zXS_tswIn X0.here hx rfl (pc0 := 3) (pc' := 36) rfl (hb hby d12_3) rfl (by decide) (o := 33) (by decide) (by decide) (by decide) (zXT_lload X0.here hx rfl (hb hby d12_36) rfl (zXS_goto X0.here hx rfl (pc0 := 38) (pc' := 52) rfl (hb hby d12_38) (by decide) (by decide) hr)))))) ?_
  obtain ⟨fs, hr, hrun, hended, hW, hsame⟩ := X0.leave (v := some (.long s1)) (fun h => by rw [Bd.returns] at h; cases h)
  refine ⟨_, _, retOut X0 hx Bd.returns rfl (Or.inr (Or.inl ⟨rfl, rfl, _, rfl⟩)) (hb hby d12_52) hr, hrun, hended, _, _, rfl, ?_, ⟨⟨_, rfl⟩, hW, hsame.mono (by decide) (by decide)⟩⟩
  show Qpl21 Z s0 s1 s2 s3 h0 n0 _ s₁.heap _
  rw [e0]
  exact ⟨rfl, N0, rfl⟩
def Qpl31 (Z : State) (s0 : Int64) (s1 : Int64) (s2 : Int64) (s3 : Int64) (h0 : Heap) (n0 : Nat) (v : Option Value) (h : Heap) (L : List Loc) : Prop := v = some (.long s2) ∧ Fr n0 L ∧ h = h0
theorem ef_pl31 (m : MethodId) (x0 : Int32) (x1 : Int32) (x2 : Int64) (x3 : Int64) (x4 : Int64) (x5 : Int64) : entryFrame m #[(.int x0), (.int x1), (.long x2), (.long x3), (.long x4), (.long x5)] 10 = mkF m 0 #[sI x0, sI x1, sJ x2, sS, sJ x3, sS, sJ x4, sS, sJ x5, sS] [] := by first | (simp [entryFrame, mkF, argsToLocals, Value.category]; done) | rfl
set_option maxRecDepth 65536 in
set_option maxHeartbeats 40000000 in
theorem pl31 (l : Launch) (Z : State) (a0 : Array Value) (hw : ∀ d ∈ tables_1, d.before a0 Z = true) (ws : List Jvm.Cond) (s0 : Int64) (s1 : Int64) (s2 : Int64) (s3 : Int64) (h0 : Heap) (n0 : Nat) (Z0 : n0 ≤ h0.size) :
    MetFree l (⟨"com/example/evenkeel/evenkeel/share/FlooredSum", "placed", "(IIJJJJ)J"⟩ : MethodName) (head1 (Jvm.Cond.code (⟨"com/example/evenkeel/evenkeel/share/FlooredSum", "placed", "(IIJJJJ)J"⟩ : MethodName) prog_96_method_9_code 10 (some .long) :: ws) ({ frames := 0, cells := 0, slots := 0, locals := 0 } : Room)) (fun a_ U_ => a_ = #[(.int (3 : Int32)), (.int (1 : Int32)), (.long s0), (.long s1), (.long s2), (.long s3)] ∧ Z.Warmed39 U_.vm ∧ U_.heap = h0) (fun _ _ _ _ _ => True) (fun _ U_ o_ V_ => ∃ v_ L_, o_ = .returned v_ ∧ Qpl31 Z s0 s1 s2 s3 h0 n0 v_ V_.heap L_ ∧ FrameEnd U_ o_ V_ L_ ({ frames := 0, cells := 0, slots := 0, locals := 0 } : Room).cells ({ frames := 0, cells := 0, slots := 0, locals := 0 } : Room).slots) := by
  refine MetFree.of_bodySF (plainFor_of_name pn_0) hisR ?_
  intro p e s m args below meth c s₁ Bd hml0 hP hK
  obtain ⟨rfl, hZ, hh⟩ := hP
  have hx := Bd.exec
  have hby := Bd.bytes
  have hml : c.maxLocals = 10 := hml0
  have hown : s.vm.findClass "com/example/evenkeel/evenkeel/share/FlooredSum" = some m.cls := findClass_of_methodNamed Bd.named
  have hnm := (name_of_methodNamed Bd.named Bd.method).1
  have X0 : Stand p l e ({ frames := 0, cells := 0, slots := 0, locals := 0 } : Room) s m #[(.int (3 : Int32)), (.int (1 : Int32)), (.long s0), (.long s1), (.long s2), (.long s3)] below meth c s₁ [] 0 0 := Stand.of_body Bd
  have e0 : s₁.heap = h0 := by rw [← hh, Bd.state]; rfl
  have N0 := Fr.nil n0
  refine Gl.go (A := s₁.setTop (entryFrame m #[(.int (3 : Int32)), (.int (1 : Int32)), (.long s0), (.long s1), (.long s2), (.long s3)] 10)) (P := fun o_ U_ => ∃ v_ L_, o_ = .returned v_ ∧ Qpl31 Z s0 s1 s2 s3 h0 n0 v_ U_.heap L_ ∧ FrameEnd s o_ U_ L_ ({ frames := 0, cells := 0, slots := 0, locals := 0 } : Room).cells ({ frames := 0, cells := 0, slots := 0, locals := 0 } : Room).slots) (fun t_ k_ => castTop (ef_pl31 m (3 : Int32) (1 : Int32) s0 s1 s2 s3) k_) ?_
  show Gl p.tables e below _ (s₁.setTop (mkF m 0 #[sI 3, sI 1, sJ s0, sS, sJ s1, sS, sJ s2, sS, sJ s3, sS] []))
  refine Gl.go (fun _ hr => zXS_iloadN X0.here hx rfl (hb hby d12_0) rfl (zXS_iloadN X0.here hx rfl (hb hby d12_1) rfl (zXS_isub X0.here hx rfl (hb hby d12_2) rfl (zXS_tswIn X0.here hx rfl (pc0 := 3) (pc' := 41) rfl (hb hby d12_3) rfl (by decide) (o := 38) (by decide) (by decide) (by decide) (zXT_lload X0.here hx rfl (hb hby d12_41) rfl (zXS_goto X0.here hx rfl (pc0 := 43) (pc' := 52) rfl (hb hby d12_43) (by decide) (by decide) hr)))))) ?_
  obtain ⟨fs, hr, hrun, hended, hW, hsame⟩ := X0.leave (v := some (.long s2)) (fun h => by rw [Bd.returns] at h; cases h)
  refine ⟨_, _, retOut X0 hx Bd.returns rfl (Or.inr (Or.inl ⟨rfl, rfl, _, rfl⟩)) (hb hby d12_52) hr, hrun, hended, _, _, rfl, ?_, ⟨⟨_, rfl⟩, hW, hsame.mono (by decide) (by decide)⟩⟩
  show Qpl31 Z s0 s1 s2 s3 h0 n0 _ s₁.heap _
  rw [e0]
  exact ⟨rfl, N0, rfl⟩
def Qini (Z : State) (x : Addr) (h0 : Heap) (n0 : Nat) (v : Option Value) (h : Heap) (L : List Loc) : Prop := v = none ∧ Fr n0 L ∧ Keep h0 h [x] ∧ (Exa Z h x "com/example/evenkeel/evenkeel/share/FlooredSum") ∧ (Fld Z h x "com/example/evenkeel/evenkeel/share/FlooredSum" "point" "J" (.long (-9223372036854775808 : Int64))) ∧ (Fld Z h x "com/example/evenkeel/evenkeel/share/FlooredSum" "limb0" "J" (.long (0 : Int64))) ∧ (Fld Z h x "com/example/evenkeel/evenkeel/share/FlooredSum" "limb1" "J" (.long (0 : Int64))) ∧ (Fld Z h x "com/example/evenkeel/evenkeel/share/FlooredSum" "limb2" "J" (.long (0 : Int64))) ∧ (Fld Z h x "com/example/evenkeel/evenkeel/share/FlooredSum" "limb3" "J" (.long (0 : Int64))) ∧ (Fld Z h x "com/example/evenkeel/evenkeel/share/FlooredSum" "known" "Z" (.int (0 : Int32)))
theorem ef_ini (m : MethodId) (x0 : Addr) : entryFrame m #[(.ref x0)] 1 = mkF m 0 #[.val (.ref x0)] [] := by first | (simp [entryFrame, mkF, argsToLocals, Value.category]; done) | rfl
theorem d1_0 : decode prog_96_method_1_code 0 = .ok (.aload_n 0, 1) := by decide +kernel
theorem d1_1 : decode prog_96_method_1_code 1 = .ok (.invokespecial 3, 3) := by decide +kernel
theorem d1_4 : decode prog_96_method_1_code 4 = .ok (.aload_n 0, 1) := by decide +kernel
theorem d1_5 : decode prog_96_method_1_code 5 = .ok (.ldc2_w 11, 3) := by decide +kernel
theorem d1_8 : decode prog_96_method_1_code 8 = .ok (.putfield 13, 3) := by decide +kernel
theorem d1_11 : decode prog_96_method_1_code 11 = .ok (.return_, 1) := by decide +kernel
set_option maxRecDepth 65536 in
set_option maxHeartbeats 40000000 in
theorem ini (l : Launch) (Z : State) (a0 : Array Value) (hw : ∀ d ∈ tables_1, d.before a0 Z = true) (ws : List Jvm.Cond) (x : Addr) (h0 : Heap) (n0 : Nat) (Z0 : n0 ≤ h0.size) (q0 : Exa Z h0 x "com/example/evenkeel/evenkeel/share/FlooredSum") (q1 : @LE.le Nat instLENat n0 x) (q2 : Fld Z h0 x "com/example/evenkeel/evenkeel/share/FlooredSum" "point" "J" (.long (0 : Int64))) (q3 : Fld Z h0 x "com/example/evenkeel/evenkeel/share/FlooredSum" "limb0" "J" (.long (0 : Int64))) (q4 : Fld Z h0 x "com/example/evenkeel/evenkeel/share/FlooredSum" "limb1" "J" (.long (0 : Int64))) (q5 : Fld Z h0 x "com/example/evenkeel/evenkeel/share/FlooredSum" "limb2" "J" (.long (0 : Int64))) (q6 : Fld Z h0 x "com/example/evenkeel/evenkeel/share/FlooredSum" "limb3" "J" (.long (0 : Int64))) (q7 : Fld Z h0 x "com/example/evenkeel/evenkeel/share/FlooredSum" "known" "Z" (.int (0 : Int32))) :
    MetFree l (⟨"com/example/evenkeel/evenkeel/share/FlooredSum", "<init>", "()V"⟩ : MethodName) (head1 (Jvm.Cond.code (⟨"com/example/evenkeel/evenkeel/share/FlooredSum", "<init>", "()V"⟩ : MethodName) prog_96_method_1_code 1 none :: ws) ({ frames := 1, cells := 0, slots := 0, locals := 12 } : Room)) (fun a_ U_ => a_ = #[(.ref x)] ∧ Z.Warmed39 U_.vm ∧ U_.heap = h0) (fun _ _ _ _ _ => True) (fun _ U_ o_ V_ => ∃ v_ L_, o_ = .returned v_ ∧ Qini Z x h0 n0 v_ V_.heap L_ ∧ FrameEnd U_ o_ V_ L_ ({ frames := 1, cells := 0, slots := 0, locals := 12 } : Room).cells ({ frames := 1, cells := 0, slots := 0, locals := 12 } : Room).slots) := by
  refine MetFree.of_bodySF (plainFor_of_name pn_0) hisR ?_
  intro p e s m args below meth c s₁ Bd hml0 hP hK
  obtain ⟨rfl, hZ, hh⟩ := hP
  have hx := Bd.exec
  have hby := Bd.bytes
  have hml : c.maxLocals = 1 := hml0
  have hown : s.vm.findClass "com/example/evenkeel/evenkeel/share/FlooredSum" = some m.cls := findClass_of_methodNamed Bd.named
  have hnm := (name_of_methodNamed Bd.named Bd.method).1
  have X0 : Stand p l e ({ frames := 1, cells := 0, slots := 0, locals := 12 } : Room) s m #[(.ref x)] below meth c s₁ [] 0 0 := Stand.of_body Bd
  have e0 : s₁.heap = h0 := by rw [← hh, Bd.state]; rfl
  have N0 := Fr.nil n0
  have lt57 := own_alt q0.lt
  have lt58 := own_alt q2.lt
  have lt59 := own_alt q3.lt
  have lt60 := own_alt q4.lt
  have lt61 := own_alt q5.lt
  have lt62 := own_alt q6.lt
  have lt63 := own_alt q7.lt
  refine Gl.go (A := s₁.setTop (entryFrame m #[(.ref x)] 1)) (P := fun o_ U_ => ∃ v_ L_, o_ = .returned v_ ∧ Qini Z x h0 n0 v_ U_.heap L_ ∧ FrameEnd s o_ U_ L_ ({ frames := 1, cells := 0, slots := 0, locals := 12 } : Room).cells ({ frames := 1, cells := 0, slots := 0, locals := 12 } : Room).slots) (fun t_ k_ => castTop (ef_ini m x) k_) ?_
  show Gl p.tables e below _ (s₁.setTop (mkF m 0 #[.val (.ref x)] []))
  refine Gl.go (fun _ hr => zXS_aloadN X0.here hx rfl (hb hby d1_0) rfl rfl hr) ?_
  refine gInit Gl.cl (W := 0) X0 hx hZ hown (hw _ (List.mem_of_getElem? (i := 10) rfl)) (hw _ (List.mem_of_getElem? (i := 11) rfl)) (hw _ (List.mem_of_getElem? (i := 12) rfl)) e0 rfl (by rw [hml]; rfl) rfl (hb hby d1_1) (by decide) (by show 2 * 0 + _ ≤ _; exact Nat.le_of_eq rfl) (by decide) ?_
  intro T64 X64 e64
  refine Gl.go (fun _ hr => zXS_aloadN X64.here hx rfl (hb hby d1_4) rfl rfl hr) ?_
  refine Gl.go (X64.ldc2Long hx hown (mvT hZ (hw _ (List.mem_of_getElem? (i := 13) rfl))) rfl (hb hby d1_5)) ?_
  refine gPutF (host := "") Gl.cl X64 hx hZ hown (Or.inl (hw _ (List.mem_of_getElem? (i := 14) rfl))) Via.refl e64 q2 q0 (Or.inl (hw _ (List.mem_of_getElem? (i := 15) rfl))) (hw _ (List.mem_of_getElem? (i := 5) rfl)) (ty := .long) (by decide) rfl rfl rfl rfl (hb hby d1_8) ?_
  intro T65 h65 X65 e65 W65
  have z66 : h0.size ≤ h65.size := (Keep.of_wr W65).1
  have Fw65 := q2.same W65
  have N65 := Fr.snoc X65 N0 (own_ale (by omega))
  have Ec67 := (q0.wr W65)
  have Fc68 := (q3.other W65 (Or.inr (slot_ne (Or.inl (hw _ (List.mem_of_getElem? (i := 28) rfl))) (Or.inl (hw _ (List.mem_of_getElem? (i := 15) rfl))) (by decide) (t := .long) (t' := .long) (by decide) (by decide))))
  have Fc69 := (q4.other W65 (Or.inr (slot_ne (Or.inl (hw _ (List.mem_of_getElem? (i := 30) rfl))) (Or.inl (hw _ (List.mem_of_getElem? (i := 15) rfl))) (by decide) (t := .long) (t' := .long) (by decide) (by decide))))
  have Fc70 := (q5.other W65 (Or.inr (slot_ne (Or.inl (hw _ (List.mem_of_getElem? (i := 32) rfl))) (Or.inl (hw _ (List.mem_of_getElem? (i := 15) rfl))) (by decide) (t := .long) (t' := .long) (by decide) (by decide))))
  have Fc71 := (q6.other W65 (Or.inr (slot_ne (Or.inl (hw _ (List.mem_of_getElem? (i := 34) rfl))) (Or.inl (hw _ (List.mem_of_getElem? (i := 15) rfl))) (by decide) (t := .long) (t' := .long) (by decide) (by decide))))
  have Fc72 := (q7.other W65 (Or.inr (slot_ne (Or.inl (hw _ (List.mem_of_getElem? (i := 66) rfl))) (Or.inl (hw _ (List.mem_of_getElem? (i := 15) rfl))) (by decide) (t := .boolean) (t' := .long) (by decide) (by decide))))
  obtain ⟨fs, hr, hrun, hended, hW, hsame⟩ := X65.leave (v := none) (fun _ => rfl)
  refine ⟨_, _, X65.returnOut hx Bd.returns (hb hby d1_11) hr, hrun, hended, _, _, rfl, ?_, ⟨⟨_, rfl⟩, hW, hsame.mono (by decide) (by decide)⟩⟩
  show Qini Z x h0 n0 _ T65.heap _
  rw [e65]
  exact ⟨rfl, N65, ((Keep.refl h0 [x]).wr W65 (Or.inl (by simp))), Ec67, Fw65, Fc68, Fc69, Fc70, Fc71, Fc72⟩
def Qsam (Z : State) (x : Addr) (y : Addr) (p_ : Int64) (l0 : Int64) (l1 : Int64) (l2 : Int64) (l3 : Int64) (q_ : Int64) (m0 : Int64) (m1 : Int64) (m2 : Int64) (m3 : Int64) (h0 : Heap) (n0 : Nat) (v : Option Value) (h : Heap) (L : List Loc) : Prop := v = some (.int (sameV p_ l0 l1 l2 l3 q_ m0 m1 m2 m3)) ∧ Fr n0 L ∧ h = h0
theorem ef_sam (m : MethodId) (x0 : Addr) (x1 : Addr) : entryFrame m #[(.ref x0), (.ref x1)] 2 = mkF m 0 #[.val (.ref x0), .val (.ref x1)] [] := by first | (simp [entryFrame, mkF, argsToLocals, Value.category]; done) | rfl
theorem d4_0 : decode prog_96_method_5_code 0 = .ok (.aload_n 0, 1) := by decide +kernel
theorem d4_1 : decode prog_96_method_5_code 1 = .ok (.getfield 13, 3) := by decide +kernel
theorem d4_4 : decode prog_96_method_5_code 4 = .ok (.aload_n 1, 1) := by decide +kernel
theorem d4_5 : decode prog_96_method_5_code 5 = .ok (.getfield 13, 3) := by decide +kernel
theorem d4_8 : decode prog_96_method_5_code 8 = .ok (.lcmp, 1) := by decide +kernel
theorem d4_9 : decode prog_96_method_5_code 9 = .ok (.ifCond .ne 55, 3) := by decide +kernel
theorem d4_12 : decode prog_96_method_5_code 12 = .ok (.aload_n 0, 1) := by decide +kernel
theorem d4_13 : decode prog_96_method_5_code 13 = .ok (.getfield 22, 3) := by decide +kernel
theorem d4_16 : decode prog_96_method_5_code 16 = .ok (.aload_n 1, 1) := by decide +kernel
theorem d4_17 : decode prog_96_method_5_code 17 = .ok (.getfield 22, 3) := by decide +kernel
theorem d4_20 : decode prog_96_method_5_code 20 = .ok (.lcmp, 1) := by decide +kernel
theorem d4_21 : decode prog_96_method_5_code 21 = .ok (.ifCond .ne 43, 3) := by decide +kernel
theorem d4_24 : decode prog_96_method_5_code 24 = .ok (.aload_n 0, 1) := by decide +kernel
theorem d4_25 : decode prog_96_method_5_code 25 = .ok (.getfield 25, 3) := by decide +kernel
theorem d4_28 : decode prog_96_method_5_code 28 = .ok (.aload_n 1, 1) := by decide +kernel
theorem d4_29 : decode prog_96_method_5_code 29 = .ok (.getfield 25, 3) := by decide +kernel
theorem d4_32 : decode prog_96_method_5_code 32 = .ok (.lcmp, 1) := by decide +kernel
theorem d4_33 : decode prog_96_method_5_code 33 = .ok (.ifCond .ne 31, 3) := by decide +kernel
theorem d4_36 : decode prog_96_method_5_code 36 = .ok (.aload_n 0, 1) := by decide +kernel
theorem d4_37 : decode prog_96_method_5_code 37 = .ok (.getfield 28, 3) := by decide +kernel
theorem d4_40 : decode prog_96_method_5_code 40 = .ok (.aload_n 1, 1) := by decide +kernel
theorem d4_41 : decode prog_96_method_5_code 41 = .ok (.getfield 28, 3) := by decide +kernel
theorem d4_44 : decode prog_96_method_5_code 44 = .ok (.lcmp, 1) := by decide +kernel
theorem d4_45 : decode prog_96_method_5_code 45 = .ok (.ifCond .ne 19, 3) := by decide +kernel
theorem d4_48 : decode prog_96_method_5_code 48 = .ok (.aload_n 0, 1) := by decide +kernel
theorem d4_49 : decode prog_96_method_5_code 49 = .ok (.getfield 31, 3) := by decide +kernel
theorem d4_52 : decode prog_96_method_5_code 52 = .ok (.aload_n 1, 1) := by decide +kernel
theorem d4_53 : decode prog_96_method_5_code 53 = .ok (.getfield 31, 3) := by decide +kernel
theorem d4_56 : decode prog_96_method_5_code 56 = .ok (.lcmp, 1) := by decide +kernel
theorem d4_57 : decode prog_96_method_5_code 57 = .ok (.ifCond .ne 7, 3) := by decide +kernel
theorem d4_60 : decode prog_96_method_5_code 60 = .ok (.iconst 1, 1) := by decide +kernel
theorem d4_61 : decode prog_96_method_5_code 61 = .ok (.goto 4, 3) := by decide +kernel
theorem d4_65 : decode prog_96_method_5_code 65 = .ok (.ireturn, 1) := by decide +kernel
theorem d4_64 : decode prog_96_method_5_code 64 = .ok (.iconst 0, 1) := by decide +kernel
set_option maxRecDepth 65536 in
set_option maxHeartbeats 40000000 in
theorem sam (l : Launch) (Z : State) (a0 : Array Value) (hw : ∀ d ∈ tables_1, d.before a0 Z = true) (ws : List Jvm.Cond) (x : Addr) (y : Addr) (p_ : Int64) (l0 : Int64) (l1 : Int64) (l2 : Int64) (l3 : Int64) (q_ : Int64) (m0 : Int64) (m1 : Int64) (m2 : Int64) (m3 : Int64) (h0 : Heap) (n0 : Nat) (Z0 : n0 ≤ h0.size) (q0 : Fld Z h0 x "com/example/evenkeel/evenkeel/share/FlooredSum" "point" "J" (.long p_)) (q1 : Fld Z h0 x "com/example/evenkeel/evenkeel/share/FlooredSum" "limb0" "J" (.long l0)) (q2 : Fld Z h0 x "com/example/evenkeel/evenkeel/share/FlooredSum" "limb1" "J" (.long l1)) (q3 : Fld Z h0 x "com/example/evenkeel/evenkeel/share/FlooredSum" "limb2" "J" (.long l2)) (q4 : Fld Z h0 x "com/example/evenkeel/evenkeel/share/FlooredSum" "limb3" "J" (.long l3)) (q5 : Fld Z h0 y "com/example/evenkeel/evenkeel/share/FlooredSum" "point" "J" (.long q_)) (q6 : Fld Z h0 y "com/example/evenkeel/evenkeel/share/FlooredSum" "limb0" "J" (.long m0)) (q7 : Fld Z h0 y "com/example/evenkeel/evenkeel/share/FlooredSum" "limb1" "J" (.long m1)) (q8 : Fld Z h0 y "com/example/evenkeel/evenkeel/share/FlooredSum" "limb2" "J" (.long m2)) (q9 : Fld Z h0 y "com/example/evenkeel/evenkeel/share/FlooredSum" "limb3" "J" (.long m3)) :
    MetFree l (⟨"com/example/evenkeel/evenkeel/share/FlooredSum", "sameAs", "(Lcom/example/evenkeel/evenkeel/share/FlooredSum;)Z"⟩ : MethodName) (head1 (Jvm.Cond.code (⟨"com/example/evenkeel/evenkeel/share/FlooredSum", "sameAs", "(Lcom/example/evenkeel/evenkeel/share/FlooredSum;)Z"⟩ : MethodName) prog_96_method_5_code 2 (some .boolean) :: ws) ({ frames := 0, cells := 0, slots := 0, locals := 0 } : Room)) (fun a_ U_ => a_ = #[(.ref x), (.ref y)] ∧ Z.Warmed39 U_.vm ∧ U_.heap = h0) (fun _ _ _ _ _ => True) (fun _ U_ o_ V_ => ∃ v_ L_, o_ = .returned v_ ∧ Qsam Z x y p_ l0 l1 l2 l3 q_ m0 m1 m2 m3 h0 n0 v_ V_.heap L_ ∧ FrameEnd U_ o_ V_ L_ ({ frames := 0, cells := 0, slots := 0, locals := 0 } : Room).cells ({ frames := 0, cells := 0, slots := 0, locals := 0 } : Room).slots) := by
  refine MetFree.of_bodySF (plainFor_of_name pn_0) hisR ?_
  intro p e s m args below meth c s₁ Bd hml0 hP hK
  obtain ⟨rfl, hZ, hh⟩ := hP
  have hx := Bd.exec
  have hby := Bd.bytes
  have hml : c.maxLocals = 2 := hml0
  have hown : s.vm.findClass "com/example/evenkeel/evenkeel/share/FlooredSum" = some m.cls := findClass_of_methodNamed Bd.named
  have hnm := (name_of_methodNamed Bd.named Bd.method).1
  have X0 : Stand p l e ({ frames := 0, cells := 0, slots := 0, locals := 0 } : Room) s m #[(.ref x), (.ref y)] below meth c s₁ [] 0 0 := Stand.of_body Bd
  have e0 : s₁.heap = h0 := by rw [← hh, Bd.state]; rfl
  have N0 := Fr.nil n0
  have lt73 := own_alt q0.lt
  have lt74 := own_alt q1.lt
  have lt75 := own_alt q2.lt
  have lt76 := own_alt q3.lt
  have lt77 := own_alt q4.lt
  have lt78 := own_alt q5.lt
  have lt79 := own_alt q6.lt
  have lt80 := own_alt q7.lt
  have lt81 := own_alt q8.lt
  have lt82 := own_alt q9.lt
  refine Gl.go (A := s₁.setTop (entryFrame m #[(.ref x), (.ref y)] 2)) (P := fun o_ U_ => ∃ v_ L_, o_ = .returned v_ ∧ Qsam Z x y p_ l0 l1 l2 l3 q_ m0 m1 m2 m3 h0 n0 v_ U_.heap L_ ∧ FrameEnd s o_ U_ L_ ({ frames := 0, cells := 0, slots := 0, locals := 0 } : Room).cells ({ frames := 0, cells := 0, slots := 0, locals := 0 } : Room).slots) (fun t_ k_ => castTop (ef_sam m x y) k_) ?_
  show Gl p.tables e below _ (s₁.setTop (mkF m 0 #[.val (.ref x), .val (.ref y)] []))
  refine Gl.go (fun _ hr => zXS_aloadN X0.here hx rfl (hb hby d4_0) rfl rfl hr) ?_
  refine gGetF (host := "") Gl.cl X0 hx hZ hown (Or.inl (hw _ (List.mem_of_getElem? (i := 14) rfl))) Via.refl e0 q0 rfl rfl (hb hby d4_1) ?_
  intro T83 X83 e83
  refine Gl.go (fun _ hr => zXS_aloadN X83.here hx rfl (hb hby d4_4) rfl rfl hr) ?_
  refine gGetF (host := "") Gl.cl X83 hx hZ hown (Or.inl (hw _ (List.mem_of_getElem? (i := 14) rfl))) Via.refl e83 q5 rfl rfl (hb hby d4_5) ?_
  intro T84 X84 e84
  refine Gl.go (fun _ hr => zXT_lcmp X84.here hx rfl (hb hby d4_8) rfl hr) ?_
  by_cases hc85 : p_ = q_
  · refine Gl.go (fun _ hr => zXS_ifNo X84.here hx rfl (hb hby d4_9) rfl (XT.ll_ne_f hc85) (zXS_aloadN X84.here hx rfl (hb hby d4_12) rfl rfl hr)) ?_
    refine gGetF (host := "") Gl.cl X84 hx hZ hown (Or.inl (hw _ (List.mem_of_getElem? (i := 27) rfl))) Via.refl e84 q1 rfl rfl (hb hby d4_13) ?_
    intro T86 X86 e86
    refine Gl.go (fun _ hr => zXS_aloadN X86.here hx rfl (hb hby d4_16) rfl rfl hr) ?_
    refine gGetF (host := "") Gl.cl X86 hx hZ hown (Or.inl (hw _ (List.mem_of_getElem? (i := 27) rfl))) Via.refl e86 q6 rfl rfl (hb hby d4_17) ?_
    intro T87 X87 e87
    refine Gl.go (fun _ hr => zXT_lcmp X87.here hx rfl (hb hby d4_20) rfl hr) ?_
    by_cases hc88 : l0 = m0
    · refine Gl.go (fun _ hr => zXS_ifNo X87.here hx rfl (hb hby d4_21) rfl (XT.ll_ne_f hc88) (zXS_aloadN X87.here hx rfl (hb hby d4_24) rfl rfl hr)) ?_
      refine gGetF (host := "") Gl.cl X87 hx hZ hown (Or.inl (hw _ (List.mem_of_getElem? (i := 29) rfl))) Via.refl e87 q2 rfl rfl (hb hby d4_25) ?_
      intro T89 X89 e89
      refine Gl.go (fun _ hr => zXS_aloadN X89.here hx rfl (hb hby d4_28) rfl rfl hr) ?_
      refine gGetF (host := "") Gl.cl X89 hx hZ hown (Or.inl (hw _ (List.mem_of_getElem? (i := 29) rfl))) Via.refl e89 q7 rfl rfl (hb hby d4_29) ?_
      intro T90 X90 e90
      refine Gl.go (fun _ hr => zXT_lcmp X90.here hx rfl (hb hby d4_32) rfl hr) ?_
      by_cases hc91 : l1 = m1
      · refine Gl.go (fun _ hr => zXS_ifNo X90.here hx rfl (hb hby d4_33) rfl (XT.ll_ne_f hc91) (zXS_aloadN X90.here hx rfl (hb hby d4_36) rfl rfl hr)) ?_
        refine gGetF (host := "") Gl.cl X90 hx hZ hown (Or.inl (hw _ (List.mem_of_getElem? (i := 31) rfl))) Via.refl e90 q3 rfl rfl (hb hby d4_37) ?_
        intro T92 X92 e92
        refine Gl.go (fun _ hr => zXS_aloadN X92.here hx rfl (hb hby d4_40) rfl rfl hr) ?_
        refine gGetF (host := "") Gl.cl X92 hx hZ hown (Or.inl (hw _ (List.mem_of_getElem? (i := 31) rfl))) Via.refl e92 q8 rfl rfl (hb hby d4_41) ?_
        intro T93 X93 e93
        refine Gl.go (fun _ hr => zXT_lcmp X93.here hx rfl (hb hby d4_44) rfl hr) ?_
        by_cases hc94 : l2 = m2
        · refine Gl.go (fun _ hr => zXS_ifNo X93.here hx rfl (hb hby d4_45) rfl (XT.ll_ne_f hc94) (zXS_aloadN X93.here hx rfl (hb hby d4_48) rfl rfl hr)) ?_
          refine gGetF (host := "") Gl.cl X93 hx hZ hown (Or.inl (hw _ (List.mem_of_getElem? (i := 33) rfl))) Via.refl e93 q4 rfl rfl (hb hby d4_49) ?_
          intro T95 X95 e95
          refine Gl.go (fun _ hr => zXS_aloadN X95.here hx rfl (hb hby d4_52) rfl rfl hr) ?_
          refine gGetF (host := "") Gl.cl X95 hx hZ hown (Or.inl (hw _ (List.mem_of_getElem? (i := 33) rfl))) Via.refl e95 q9 rfl rfl (hb hby d4_53) ?_
          intro T96 X96 e96
          refine Gl.go (fun _ hr => zXT_lcmp X96.here hx rfl (hb hby d4_56) rfl hr) ?_
          by_cases hc97 : l3 = m3
          · refine Gl.go (fun _ hr => zXS_ifNo X96.here hx rfl (hb hby d4_57) rfl (XT.ll_ne_f hc97) (zXS_iconst X96.here hx rfl (hb hby d4_60) (zXS_goto X96.here hx rfl (pc0 := 61) (pc' := 65) rfl (hb hby d4_61) (by decide) (by decide) hr))) ?_
            obtain ⟨fs, hr, hrun, hended, hW, hsame⟩ := X96.leave (v := some (.int (1 : Int32))) (fun h => by rw [Bd.returns] at h; cases h)
            refine ⟨_, _, retN X96 hx (t := .boolean) Bd.returns (by simp) (hb hby d4_65) hr, hrun, hended, _, _, rfl, ?_, ⟨⟨_, rfl⟩, hW, hsame.mono (by decide) (by decide)⟩⟩
            show Qsam Z x y p_ l0 l1 l2 l3 q_ m0 m1 m2 m3 h0 n0 _ T96.heap _
            rw [e96]
            exact ⟨(by rw [sameV_pos ⟨hc85, hc88, hc91, hc94, hc97⟩]), N0, rfl⟩
          · refine Gl.go (fun _ hr => zXS_ifYes X96.here hx rfl (pc0 := 57) (pc' := 64) rfl (hb hby d4_57) rfl (XT.ll_ne_t hc97) (by decide) (by decide) (zXS_iconst X96.here hx rfl (hb hby d4_64) hr)) ?_
            obtain ⟨fs, hr, hrun, hended, hW, hsame⟩ := X96.leave (v := some (.int (0 : Int32))) (fun h => by rw [Bd.returns] at h; cases h)
            refine ⟨_, _, retN X96 hx (t := .boolean) Bd.returns (by simp) (hb hby d4_65) hr, hrun, hended, _, _, rfl, ?_, ⟨⟨_, rfl⟩, hW, hsame.mono (by decide) (by decide)⟩⟩
            show Qsam Z x y p_ l0 l1 l2 l3 q_ m0 m1 m2 m3 h0 n0 _ T96.heap _
            rw [e96]
            exact ⟨(by rw [sameV_neg fun q => hc97 q.2.2.2.2]), N0, rfl⟩
        · refine Gl.go (fun _ hr => zXS_ifYes X93.here hx rfl (pc0 := 45) (pc' := 64) rfl (hb hby d4_45) rfl (XT.ll_ne_t hc94) (by decide) (by decide) (zXS_iconst X93.here hx rfl (hb hby d4_64) hr)) ?_
          obtain ⟨fs, hr, hrun, hended, hW, hsame⟩ := X93.leave (v := some (.int (0 : Int32))) (fun h => by rw [Bd.returns] at h; cases h)
          refine ⟨_, _, retN X93 hx (t := .boolean) Bd.returns (by simp) (hb hby d4_65) hr, hrun, hended, _, _, rfl, ?_, ⟨⟨_, rfl⟩, hW, hsame.mono (by decide) (by decide)⟩⟩
          show Qsam Z x y p_ l0 l1 l2 l3 q_ m0 m1 m2 m3 h0 n0 _ T93.heap _
          rw [e93]
          exact ⟨(by rw [sameV_neg fun q => hc94 q.2.2.2.1]), N0, rfl⟩
      · refine Gl.go (fun _ hr => zXS_ifYes X90.here hx rfl (pc0 := 33) (pc' := 64) rfl (hb hby d4_33) rfl (XT.ll_ne_t hc91) (by decide) (by decide) (zXS_iconst X90.here hx rfl (hb hby d4_64) hr)) ?_
        obtain ⟨fs, hr, hrun, hended, hW, hsame⟩ := X90.leave (v := some (.int (0 : Int32))) (fun h => by rw [Bd.returns] at h; cases h)
        refine ⟨_, _, retN X90 hx (t := .boolean) Bd.returns (by simp) (hb hby d4_65) hr, hrun, hended, _, _, rfl, ?_, ⟨⟨_, rfl⟩, hW, hsame.mono (by decide) (by decide)⟩⟩
        show Qsam Z x y p_ l0 l1 l2 l3 q_ m0 m1 m2 m3 h0 n0 _ T90.heap _
        rw [e90]
        exact ⟨(by rw [sameV_neg fun q => hc91 q.2.2.1]), N0, rfl⟩
    · refine Gl.go (fun _ hr => zXS_ifYes X87.here hx rfl (pc0 := 21) (pc' := 64) rfl (hb hby d4_21) rfl (XT.ll_ne_t hc88) (by decide) (by decide) (zXS_iconst X87.here hx rfl (hb hby d4_64) hr)) ?_
      obtain ⟨fs, hr, hrun, hended, hW, hsame⟩ := X87.leave (v := some (.int (0 : Int32))) (fun h => by rw [Bd.returns] at h; cases h)
      refine ⟨_, _, retN X87 hx (t := .boolean) Bd.returns (by simp) (hb hby d4_65) hr, hrun, hended, _, _, rfl, ?_, ⟨⟨_, rfl⟩, hW, hsame.mono (by decide) (by decide)⟩⟩
      show Qsam Z x y p_ l0 l1 l2 l3 q_ m0 m1 m2 m3 h0 n0 _ T87.heap _
      rw [e87]
      exact ⟨(by rw [sameV_neg fun q => hc88 q.2.1]), N0, rfl⟩
  · refine Gl.go (fun _ hr => zXS_ifYes X84.here hx rfl (pc0 := 9) (pc' := 64) rfl (hb hby d4_9) rfl (XT.ll_ne_t hc85) (by decide) (by decide) (zXS_iconst X84.here hx rfl (hb hby d4_64) hr)) ?_
    obtain ⟨fs, hr, hrun, hended, hW, hsame⟩ := X84.leave (v := some (.int (0 : Int32))) (fun h => by rw [Bd.returns] at h; cases h)
    refine ⟨_, _, retN X84 hx (t := .boolean) Bd.returns (by simp) (hb hby d4_65) hr, hrun, hended, _, _, rfl, ?_, ⟨⟨_, rfl⟩, hW, hsame.mono (by decide) (by decide)⟩⟩
    show Qsam Z x y p_ l0 l1 l2 l3 q_ m0 m1 m2 m3 h0 n0 _ T84.heap _
    rw [e84]
    exact ⟨(by rw [sameV_neg fun q => hc85 q.1]), N0, rfl⟩
def QaddA (Z : State) (x : Addr) (cn : Int64) (hi : Int64) (lo : Int64) (ex : Int64) (h0 : Heap) (n0 : Nat) (v : Option Value) (h : Heap) (L : List Loc) : Prop := ∃ (m0 : Int64), ∃ (m1 : Int64), ∃ (m2 : Int64), ∃ (m3 : Int64), v = none ∧ Fr n0 L ∧ Keep h0 h [x] ∧ (Exa Z h x "com/example/evenkeel/evenkeel/share/FlooredSum") ∧ (Fld Z h x "com/example/evenkeel/evenkeel/share/FlooredSum" "point" "J" (.long ex)) ∧ (Fld Z h x "com/example/evenkeel/evenkeel/share/FlooredSum" "limb0" "J" (.long m0)) ∧ (Fld Z h x "com/example/evenkeel/evenkeel/share/FlooredSum" "limb1" "J" (.long m1)) ∧ (Fld Z h x "com/example/evenkeel/evenkeel/share/FlooredSum" "limb2" "J" (.long m2)) ∧ (Fld Z h x "com/example/evenkeel/evenkeel/share/FlooredSum" "limb3" "J" (.long m3)) ∧ (Fld Z h x "com/example/evenkeel/evenkeel/share/FlooredSum" "known" "Z" (.int (0 : Int32))) ∧ ((m0, m1, m2, m3) = fA cn hi lo) ∧ (m3 = 0 ∨ m3 = -1)
theorem ef_addA (m : MethodId) (x0 : Addr) (x1 : Int64) (x2 : Int64) (x3 : Int64) (x4 : Int64) : entryFrame m #[(.ref x0), (.long x1), (.long x2), (.long x3), (.long x4)] 57 = mkF m 0 #[.val (.ref x0), sJ x1, sS, sJ x2, sS, sJ x3, sS, sJ x4, sS, sU, sU, sU, sU, sU, sU, sU, sU, sU, sU, sU, sU, sU, sU, sU, sU, sU, sU, sU, sU, sU, sU, sU, sU, sU, sU, sU, sU, sU, sU, sU, sU, sU, sU, sU, sU, sU, sU, sU, sU, sU, sU, sU, sU, sU, sU, sU, sU] [] := by first | (simp [entryFrame, mkF, argsToLocals, Value.category]; done) | rfl
theorem d3_0 : decode prog_96_method_10_code 0 = .ok (.aload_n 0, 1) := by decide +kernel
theorem d3_1 : decode prog_96_method_10_code 1 = .ok (.getfield 13, 3) := by decide +kernel
theorem d3_4 : decode prog_96_method_10_code 4 = .ok (.ldc2_w 11, 3) := by decide +kernel
theorem d3_7 : decode prog_96_method_10_code 7 = .ok (.lcmp, 1) := by decide +kernel
theorem d3_8 : decode prog_96_method_10_code 8 = .ok (.ifCond .ne 9, 3) := by decide +kernel
theorem d3_11 : decode prog_96_method_10_code 11 = .ok (.aload_n 0, 1) := by decide +kernel
theorem d3_12 : decode prog_96_method_10_code 12 = .ok (.lload 7, 2) := by decide +kernel
theorem d3_14 : decode prog_96_method_10_code 14 = .ok (.putfield 13, 3) := by decide +kernel
theorem d3_17 : decode prog_96_method_10_code 17 = .ok (.lload 7, 2) := by decide +kernel
theorem d3_19 : decode prog_96_method_10_code 19 = .ok (.aload_n 0, 1) := by decide +kernel
theorem d3_20 : decode prog_96_method_10_code 20 = .ok (.getfield 13, 3) := by decide +kernel
theorem d3_23 : decode prog_96_method_10_code 23 = .ok (.lcmp, 1) := by decide +kernel
theorem d3_24 : decode prog_96_method_10_code 24 = .ok (.ifCond .ge 22, 3) := by decide +kernel
theorem d3_46 : decode prog_96_method_10_code 46 = .ok (.lload_n 1, 1) := by decide +kernel
theorem d3_47 : decode prog_96_method_10_code 47 = .ok (.lconst 0, 1) := by decide +kernel
theorem d3_48 : decode prog_96_method_10_code 48 = .ok (.lcmp, 1) := by decide +kernel
theorem d3_49 : decode prog_96_method_10_code 49 = .ok (.ifCond .eq 16, 3) := by decide +kernel
theorem d3_65 : decode prog_96_method_10_code 65 = .ok (.return_, 1) := by decide +kernel
theorem d3_52 : decode prog_96_method_10_code 52 = .ok (.lload_n 3, 1) := by decide +kernel
theorem d3_53 : decode prog_96_method_10_code 53 = .ok (.lconst 0, 1) := by decide +kernel
theorem d3_54 : decode prog_96_method_10_code 54 = .ok (.lcmp, 1) := by decide +kernel
theorem d3_55 : decode prog_96_method_10_code 55 = .ok (.ifCond .ne 11, 3) := by decide +kernel
theorem d3_58 : decode prog_96_method_10_code 58 = .ok (.lload 5, 2) := by decide +kernel
theorem d3_60 : decode prog_96_method_10_code 60 = .ok (.lconst 0, 1) := by decide +kernel
theorem d3_61 : decode prog_96_method_10_code 61 = .ok (.lcmp, 1) := by decide +kernel
theorem d3_62 : decode prog_96_method_10_code 62 = .ok (.ifCond .ne 4, 3) := by decide +kernel
theorem d3_66 : decode prog_96_method_10_code 66 = .ok (.lload_n 1, 1) := by decide +kernel
theorem d3_67 : decode prog_96_method_10_code 67 = .ok (.invokestatic 67, 3) := by decide +kernel
theorem pd_3 : parseMethodDescriptor "(J)J" = some ⟨[.long], some .long⟩ := by decide +kernel
theorem d3_70 : decode prog_96_method_10_code 70 = .ok (.lstore 9, 2) := by decide +kernel
theorem d3_72 : decode prog_96_method_10_code 72 = .ok (.lload 9, 2) := by decide +kernel
theorem d3_74 : decode prog_96_method_10_code 74 = .ok (.lload 5, 2) := by decide +kernel
theorem d3_76 : decode prog_96_method_10_code 76 = .ok (.lmul, 1) := by decide +kernel
theorem d3_77 : decode prog_96_method_10_code 77 = .ok (.lstore 11, 2) := by decide +kernel
theorem d3_79 : decode prog_96_method_10_code 79 = .ok (.lload 9, 2) := by decide +kernel
theorem d3_81 : decode prog_96_method_10_code 81 = .ok (.lload 5, 2) := by decide +kernel
theorem d3_83 : decode prog_96_method_10_code 83 = .ok (.invokestatic 73, 3) := by decide +kernel
theorem d3_86 : decode prog_96_method_10_code 86 = .ok (.lstore 13, 2) := by decide +kernel
theorem d3_88 : decode prog_96_method_10_code 88 = .ok (.lload 13, 2) := by decide +kernel
theorem d3_90 : decode prog_96_method_10_code 90 = .ok (.lload 9, 2) := by decide +kernel
theorem d3_92 : decode prog_96_method_10_code 92 = .ok (.lload_n 3, 1) := by decide +kernel
theorem d3_93 : decode prog_96_method_10_code 93 = .ok (.lmul, 1) := by decide +kernel
theorem d3_94 : decode prog_96_method_10_code 94 = .ok (.ladd, 1) := by decide +kernel
theorem d3_95 : decode prog_96_method_10_code 95 = .ok (.lstore 15, 2) := by decide +kernel
theorem d3_97 : decode prog_96_method_10_code 97 = .ok (.lload 9, 2) := by decide +kernel
theorem d3_99 : decode prog_96_method_10_code 99 = .ok (.lload_n 3, 1) := by decide +kernel
theorem d3_100 : decode prog_96_method_10_code 100 = .ok (.invokestatic 77, 3) := by decide +kernel
theorem d3_103 : decode prog_96_method_10_code 103 = .ok (.lload 15, 2) := by decide +kernel
theorem d3_105 : decode prog_96_method_10_code 105 = .ok (.lload 13, 2) := by decide +kernel
theorem d3_107 : decode prog_96_method_10_code 107 = .ok (.invokestatic 80, 3) := by decide +kernel
theorem d3_110 : decode prog_96_method_10_code 110 = .ok (.ifCond .ge 7, 3) := by decide +kernel
theorem d3_113 : decode prog_96_method_10_code 113 = .ok (.iconst 1, 1) := by decide +kernel
theorem d3_114 : decode prog_96_method_10_code 114 = .ok (.goto 4, 3) := by decide +kernel
theorem d3_117 : decode prog_96_method_10_code 117 = .ok (.iconst 0, 1) := by decide +kernel
theorem d3_118 : decode prog_96_method_10_code 118 = .ok (.i2l, 1) := by decide +kernel
theorem d3_119 : decode prog_96_method_10_code 119 = .ok (.ladd, 1) := by decide +kernel
theorem d3_120 : decode prog_96_method_10_code 120 = .ok (.lstore 17, 2) := by decide +kernel
theorem d3_122 : decode prog_96_method_10_code 122 = .ok (.lload 7, 2) := by decide +kernel
theorem d3_124 : decode prog_96_method_10_code 124 = .ok (.aload_n 0, 1) := by decide +kernel
theorem d3_125 : decode prog_96_method_10_code 125 = .ok (.getfield 13, 3) := by decide +kernel
theorem d3_128 : decode prog_96_method_10_code 128 = .ok (.lsub, 1) := by decide +kernel
theorem d3_129 : decode prog_96_method_10_code 129 = .ok (.lstore 19, 2) := by decide +kernel
theorem d3_131 : decode prog_96_method_10_code 131 = .ok (.lload 19, 2) := by decide +kernel
theorem d3_133 : decode prog_96_method_10_code 133 = .ok (.sipush 255, 3) := by decide +kernel
theorem d3_136 : decode prog_96_method_10_code 136 = .ok (.sipush 192, 3) := by decide +kernel
theorem d3_139 : decode prog_96_method_10_code 139 = .ok (.lload 17, 2) := by decide +kernel
theorem d3_141 : decode prog_96_method_10_code 141 = .ok (.invokestatic 84, 3) := by decide +kernel
theorem pd_4 : parseMethodDescriptor "(J)I" = some ⟨[.long], some .int⟩ := by decide +kernel
theorem d3_144 : decode prog_96_method_10_code 144 = .ok (.isub, 1) := by decide +kernel
theorem d3_145 : decode prog_96_method_10_code 145 = .ok (.isub, 1) := by decide +kernel
theorem d3_146 : decode prog_96_method_10_code 146 = .ok (.i2l, 1) := by decide +kernel
theorem d3_147 : decode prog_96_method_10_code 147 = .ok (.lcmp, 1) := by decide +kernel
theorem d3_148 : decode prog_96_method_10_code 148 = .ok (.ifCond .le 13, 3) := by decide +kernel
theorem d3_161 : decode prog_96_method_10_code 161 = .ok (.lload 19, 2) := by decide +kernel
theorem d3_163 : decode prog_96_method_10_code 163 = .ok (.bipush 6, 2) := by decide +kernel
theorem d3_165 : decode prog_96_method_10_code 165 = .ok (.lushr, 1) := by decide +kernel
theorem d3_166 : decode prog_96_method_10_code 166 = .ok (.l2i, 1) := by decide +kernel
theorem d3_167 : decode prog_96_method_10_code 167 = .ok (.istore 21, 2) := by decide +kernel
theorem d3_169 : decode prog_96_method_10_code 169 = .ok (.lload 19, 2) := by decide +kernel
theorem d3_171 : decode prog_96_method_10_code 171 = .ok (.ldc2_w 48, 3) := by decide +kernel
theorem d3_174 : decode prog_96_method_10_code 174 = .ok (.land, 1) := by decide +kernel
theorem d3_175 : decode prog_96_method_10_code 175 = .ok (.l2i, 1) := by decide +kernel
theorem d3_176 : decode prog_96_method_10_code 176 = .ok (.istore 22, 2) := by decide +kernel
theorem d3_178 : decode prog_96_method_10_code 178 = .ok (.lload 11, 2) := by decide +kernel
theorem d3_180 : decode prog_96_method_10_code 180 = .ok (.iload 22, 2) := by decide +kernel
theorem d3_182 : decode prog_96_method_10_code 182 = .ok (.lshl, 1) := by decide +kernel
theorem d3_183 : decode prog_96_method_10_code 183 = .ok (.lstore 23, 2) := by decide +kernel
theorem d3_185 : decode prog_96_method_10_code 185 = .ok (.lload 15, 2) := by decide +kernel
theorem d3_187 : decode prog_96_method_10_code 187 = .ok (.iload 22, 2) := by decide +kernel
theorem d3_189 : decode prog_96_method_10_code 189 = .ok (.lshl, 1) := by decide +kernel
theorem d3_190 : decode prog_96_method_10_code 190 = .ok (.iload 22, 2) := by decide +kernel
theorem d3_192 : decode prog_96_method_10_code 192 = .ok (.ifCond .ne 7, 3) := by decide +kernel
theorem d3_195 : decode prog_96_method_10_code 195 = .ok (.lconst 0, 1) := by decide +kernel
theorem d3_196 : decode prog_96_method_10_code 196 = .ok (.goto 11, 3) := by decide +kernel
theorem d3_207 : decode prog_96_method_10_code 207 = .ok (.lor, 1) := by decide +kernel
theorem d3_208 : decode prog_96_method_10_code 208 = .ok (.lstore 25, 2) := by decide +kernel
theorem d3_210 : decode prog_96_method_10_code 210 = .ok (.lload 17, 2) := by decide +kernel
theorem d3_212 : decode prog_96_method_10_code 212 = .ok (.iload 22, 2) := by decide +kernel
theorem d3_214 : decode prog_96_method_10_code 214 = .ok (.lshl, 1) := by decide +kernel
theorem d3_215 : decode prog_96_method_10_code 215 = .ok (.iload 22, 2) := by decide +kernel
theorem d3_217 : decode prog_96_method_10_code 217 = .ok (.ifCond .ne 7, 3) := by decide +kernel
theorem d3_220 : decode prog_96_method_10_code 220 = .ok (.lconst 0, 1) := by decide +kernel
theorem d3_221 : decode prog_96_method_10_code 221 = .ok (.goto 11, 3) := by decide +kernel
theorem d3_232 : decode prog_96_method_10_code 232 = .ok (.lor, 1) := by decide +kernel
theorem d3_233 : decode prog_96_method_10_code 233 = .ok (.lstore 27, 2) := by decide +kernel
theorem d3_235 : decode prog_96_method_10_code 235 = .ok (.iload 22, 2) := by decide +kernel
theorem d3_237 : decode prog_96_method_10_code 237 = .ok (.ifCond .ne 7, 3) := by decide +kernel
theorem d3_240 : decode prog_96_method_10_code 240 = .ok (.lconst 0, 1) := by decide +kernel
theorem d3_241 : decode prog_96_method_10_code 241 = .ok (.goto 11, 3) := by decide +kernel
theorem d3_252 : decode prog_96_method_10_code 252 = .ok (.lstore 29, 2) := by decide +kernel
theorem d3_254 : decode prog_96_method_10_code 254 = .ok (.iconst 0, 1) := by decide +kernel
theorem d3_255 : decode prog_96_method_10_code 255 = .ok (.iload 21, 2) := by decide +kernel
theorem d3_257 : decode prog_96_method_10_code 257 = .ok (.lload 23, 2) := by decide +kernel
theorem d3_259 : decode prog_96_method_10_code 259 = .ok (.lload 25, 2) := by decide +kernel
theorem d3_261 : decode prog_96_method_10_code 261 = .ok (.lload 27, 2) := by decide +kernel
theorem d3_263 : decode prog_96_method_10_code 263 = .ok (.lload 29, 2) := by decide +kernel
theorem d3_265 : decode prog_96_method_10_code 265 = .ok (.invokestatic 93, 3) := by decide +kernel
theorem pd_5 : parseMethodDescriptor "(IIJJJJ)J" = some ⟨[.int, .int, .long, .long, .long, .long], some .long⟩ := by decide +kernel
theorem d3_268 : decode prog_96_method_10_code 268 = .ok (.lstore 31, 2) := by decide +kernel
theorem d3_270 : decode prog_96_method_10_code 270 = .ok (.iconst 1, 1) := by decide +kernel
theorem d3_271 : decode prog_96_method_10_code 271 = .ok (.iload 21, 2) := by decide +kernel
theorem d3_273 : decode prog_96_method_10_code 273 = .ok (.lload 23, 2) := by decide +kernel
theorem d3_275 : decode prog_96_method_10_code 275 = .ok (.lload 25, 2) := by decide +kernel
theorem d3_277 : decode prog_96_method_10_code 277 = .ok (.lload 27, 2) := by decide +kernel
theorem d3_279 : decode prog_96_method_10_code 279 = .ok (.lload 29, 2) := by decide +kernel
theorem d3_281 : decode prog_96_method_10_code 281 = .ok (.invokestatic 93, 3) := by decide +kernel
theorem d3_284 : decode prog_96_method_10_code 284 = .ok (.lstore 33, 2) := by decide +kernel
theorem d3_286 : decode prog_96_method_10_code 286 = .ok (.iconst 2, 1) := by decide +kernel
theorem d3_287 : decode prog_96_method_10_code 287 = .ok (.iload 21, 2) := by decide +kernel
theorem d3_289 : decode prog_96_method_10_code 289 = .ok (.lload 23, 2) := by decide +kernel
theorem d3_291 : decode prog_96_method_10_code 291 = .ok (.lload 25, 2) := by decide +kernel
theorem d3_293 : decode prog_96_method_10_code 293 = .ok (.lload 27, 2) := by decide +kernel
theorem d3_295 : decode prog_96_method_10_code 295 = .ok (.lload 29, 2) := by decide +kernel
theorem d3_297 : decode prog_96_method_10_code 297 = .ok (.invokestatic 93, 3) := by decide +kernel
theorem d3_300 : decode prog_96_method_10_code 300 = .ok (.lstore 35, 2) := by decide +kernel
theorem d3_302 : decode prog_96_method_10_code 302 = .ok (.iconst 3, 1) := by decide +kernel
theorem d3_303 : decode prog_96_method_10_code 303 = .ok (.iload 21, 2) := by decide +kernel
theorem d3_305 : decode prog_96_method_10_code 305 = .ok (.lload 23, 2) := by decide +kernel
theorem d3_307 : decode prog_96_method_10_code 307 = .ok (.lload 25, 2) := by decide +kernel
theorem d3_309 : decode prog_96_method_10_code 309 = .ok (.lload 27, 2) := by decide +kernel
theorem d3_311 : decode prog_96_method_10_code 311 = .ok (.lload 29, 2) := by decide +kernel
theorem d3_313 : decode prog_96_method_10_code 313 = .ok (.invokestatic 93, 3) := by decide +kernel
theorem d3_316 : decode prog_96_method_10_code 316 = .ok (.lstore 37, 2) := by decide +kernel
theorem d3_318 : decode prog_96_method_10_code 318 = .ok (.lload_n 1, 1) := by decide +kernel
theorem d3_319 : decode prog_96_method_10_code 319 = .ok (.lconst 0, 1) := by decide +kernel
theorem d3_320 : decode prog_96_method_10_code 320 = .ok (.lcmp, 1) := by decide +kernel
theorem d3_321 : decode prog_96_method_10_code 321 = .ok (.ifCond .ge 102, 3) := by decide +kernel
theorem d3_324 : decode prog_96_method_10_code 324 = .ok (.lload 31, 2) := by decide +kernel
theorem d3_326 : decode prog_96_method_10_code 326 = .ok (.ldc2_w 97, 3) := by decide +kernel
theorem d3_329 : decode prog_96_method_10_code 329 = .ok (.lxor, 1) := by decide +kernel
theorem d3_330 : decode prog_96_method_10_code 330 = .ok (.lconst 1, 1) := by decide +kernel
theorem d3_331 : decode prog_96_method_10_code 331 = .ok (.ladd, 1) := by decide +kernel
theorem d3_332 : decode prog_96_method_10_code 332 = .ok (.lstore 31, 2) := by decide +kernel
theorem d3_334 : decode prog_96_method_10_code 334 = .ok (.lload 31, 2) := by decide +kernel
theorem d3_336 : decode prog_96_method_10_code 336 = .ok (.lconst 0, 1) := by decide +kernel
theorem d3_337 : decode prog_96_method_10_code 337 = .ok (.lcmp, 1) := by decide +kernel
theorem d3_338 : decode prog_96_method_10_code 338 = .ok (.ifCond .ne 7, 3) := by decide +kernel
theorem d3_341 : decode prog_96_method_10_code 341 = .ok (.lconst 1, 1) := by decide +kernel
theorem d3_342 : decode prog_96_method_10_code 342 = .ok (.goto 4, 3) := by decide +kernel
theorem d3_345 : decode prog_96_method_10_code 345 = .ok (.lconst 0, 1) := by decide +kernel
theorem d3_346 : decode prog_96_method_10_code 346 = .ok (.lstore 39, 2) := by decide +kernel
theorem d3_348 : decode prog_96_method_10_code 348 = .ok (.lload 33, 2) := by decide +kernel
theorem d3_350 : decode prog_96_method_10_code 350 = .ok (.ldc2_w 97, 3) := by decide +kernel
theorem d3_353 : decode prog_96_method_10_code 353 = .ok (.lxor, 1) := by decide +kernel
theorem d3_354 : decode prog_96_method_10_code 354 = .ok (.lload 39, 2) := by decide +kernel
theorem d3_356 : decode prog_96_method_10_code 356 = .ok (.ladd, 1) := by decide +kernel
theorem d3_357 : decode prog_96_method_10_code 357 = .ok (.lstore 33, 2) := by decide +kernel
theorem d3_359 : decode prog_96_method_10_code 359 = .ok (.lload 39, 2) := by decide +kernel
theorem d3_361 : decode prog_96_method_10_code 361 = .ok (.lconst 1, 1) := by decide +kernel
theorem d3_362 : decode prog_96_method_10_code 362 = .ok (.lcmp, 1) := by decide +kernel
theorem d3_363 : decode prog_96_method_10_code 363 = .ok (.ifCond .ne 14, 3) := by decide +kernel
theorem d3_366 : decode prog_96_method_10_code 366 = .ok (.lload 33, 2) := by decide +kernel
theorem d3_368 : decode prog_96_method_10_code 368 = .ok (.lconst 0, 1) := by decide +kernel
theorem d3_369 : decode prog_96_method_10_code 369 = .ok (.lcmp, 1) := by decide +kernel
theorem d3_370 : decode prog_96_method_10_code 370 = .ok (.ifCond .ne 7, 3) := by decide +kernel
theorem d3_373 : decode prog_96_method_10_code 373 = .ok (.lconst 1, 1) := by decide +kernel
theorem d3_374 : decode prog_96_method_10_code 374 = .ok (.goto 4, 3) := by decide +kernel
theorem d3_377 : decode prog_96_method_10_code 377 = .ok (.lconst 0, 1) := by decide +kernel
theorem d3_378 : decode prog_96_method_10_code 378 = .ok (.lstore 41, 2) := by decide +kernel
theorem d3_380 : decode prog_96_method_10_code 380 = .ok (.lload 35, 2) := by decide +kernel
theorem d3_382 : decode prog_96_method_10_code 382 = .ok (.ldc2_w 97, 3) := by decide +kernel
theorem d3_385 : decode prog_96_method_10_code 385 = .ok (.lxor, 1) := by decide +kernel
theorem d3_386 : decode prog_96_method_10_code 386 = .ok (.lload 41, 2) := by decide +kernel
theorem d3_388 : decode prog_96_method_10_code 388 = .ok (.ladd, 1) := by decide +kernel
theorem d3_389 : decode prog_96_method_10_code 389 = .ok (.lstore 35, 2) := by decide +kernel
theorem d3_391 : decode prog_96_method_10_code 391 = .ok (.lload 41, 2) := by decide +kernel
theorem d3_393 : decode prog_96_method_10_code 393 = .ok (.lconst 1, 1) := by decide +kernel
theorem d3_394 : decode prog_96_method_10_code 394 = .ok (.lcmp, 1) := by decide +kernel
theorem d3_395 : decode prog_96_method_10_code 395 = .ok (.ifCond .ne 14, 3) := by decide +kernel
theorem d3_398 : decode prog_96_method_10_code 398 = .ok (.lload 35, 2) := by decide +kernel
theorem d3_400 : decode prog_96_method_10_code 400 = .ok (.lconst 0, 1) := by decide +kernel
theorem d3_401 : decode prog_96_method_10_code 401 = .ok (.lcmp, 1) := by decide +kernel
theorem d3_402 : decode prog_96_method_10_code 402 = .ok (.ifCond .ne 7, 3) := by decide +kernel
theorem d3_405 : decode prog_96_method_10_code 405 = .ok (.lconst 1, 1) := by decide +kernel
theorem d3_406 : decode prog_96_method_10_code 406 = .ok (.goto 4, 3) := by decide +kernel
theorem d3_409 : decode prog_96_method_10_code 409 = .ok (.lconst 0, 1) := by decide +kernel
theorem d3_410 : decode prog_96_method_10_code 410 = .ok (.lstore 43, 2) := by decide +kernel
theorem d3_412 : decode prog_96_method_10_code 412 = .ok (.lload 37, 2) := by decide +kernel
theorem d3_414 : decode prog_96_method_10_code 414 = .ok (.ldc2_w 97, 3) := by decide +kernel
theorem d3_417 : decode prog_96_method_10_code 417 = .ok (.lxor, 1) := by decide +kernel
theorem d3_418 : decode prog_96_method_10_code 418 = .ok (.lload 43, 2) := by decide +kernel
theorem d3_420 : decode prog_96_method_10_code 420 = .ok (.ladd, 1) := by decide +kernel
theorem d3_421 : decode prog_96_method_10_code 421 = .ok (.lstore 37, 2) := by decide +kernel
theorem d3_423 : decode prog_96_method_10_code 423 = .ok (.aload_n 0, 1) := by decide +kernel
theorem d3_424 : decode prog_96_method_10_code 424 = .ok (.getfield 22, 3) := by decide +kernel
theorem d3_427 : decode prog_96_method_10_code 427 = .ok (.lload 31, 2) := by decide +kernel
theorem d3_429 : decode prog_96_method_10_code 429 = .ok (.ladd, 1) := by decide +kernel
theorem d3_430 : decode prog_96_method_10_code 430 = .ok (.lstore 39, 2) := by decide +kernel
theorem d3_432 : decode prog_96_method_10_code 432 = .ok (.lload 39, 2) := by decide +kernel
theorem d3_434 : decode prog_96_method_10_code 434 = .ok (.aload_n 0, 1) := by decide +kernel
theorem d3_435 : decode prog_96_method_10_code 435 = .ok (.getfield 22, 3) := by decide +kernel
theorem d3_438 : decode prog_96_method_10_code 438 = .ok (.invokestatic 80, 3) := by decide +kernel
theorem d3_441 : decode prog_96_method_10_code 441 = .ok (.ifCond .ge 7, 3) := by decide +kernel
theorem d3_448 : decode prog_96_method_10_code 448 = .ok (.lconst 0, 1) := by decide +kernel
theorem d3_449 : decode prog_96_method_10_code 449 = .ok (.lstore 41, 2) := by decide +kernel
theorem d3_451 : decode prog_96_method_10_code 451 = .ok (.aload_n 0, 1) := by decide +kernel
theorem d3_452 : decode prog_96_method_10_code 452 = .ok (.getfield 25, 3) := by decide +kernel
theorem d3_455 : decode prog_96_method_10_code 455 = .ok (.lload 33, 2) := by decide +kernel
theorem d3_457 : decode prog_96_method_10_code 457 = .ok (.ladd, 1) := by decide +kernel
theorem d3_458 : decode prog_96_method_10_code 458 = .ok (.lstore 43, 2) := by decide +kernel
theorem d3_460 : decode prog_96_method_10_code 460 = .ok (.lload 43, 2) := by decide +kernel
theorem d3_462 : decode prog_96_method_10_code 462 = .ok (.lload 41, 2) := by decide +kernel
theorem d3_464 : decode prog_96_method_10_code 464 = .ok (.ladd, 1) := by decide +kernel
theorem d3_465 : decode prog_96_method_10_code 465 = .ok (.lstore 45, 2) := by decide +kernel
theorem d3_467 : decode prog_96_method_10_code 467 = .ok (.lload 43, 2) := by decide +kernel
theorem d3_469 : decode prog_96_method_10_code 469 = .ok (.aload_n 0, 1) := by decide +kernel
theorem d3_470 : decode prog_96_method_10_code 470 = .ok (.getfield 25, 3) := by decide +kernel
theorem d3_473 : decode prog_96_method_10_code 473 = .ok (.invokestatic 80, 3) := by decide +kernel
theorem d3_476 : decode prog_96_method_10_code 476 = .ok (.ifCond .lt 13, 3) := by decide +kernel
theorem d3_479 : decode prog_96_method_10_code 479 = .ok (.lload 45, 2) := by decide +kernel
theorem d3_481 : decode prog_96_method_10_code 481 = .ok (.lload 43, 2) := by decide +kernel
theorem d3_483 : decode prog_96_method_10_code 483 = .ok (.invokestatic 80, 3) := by decide +kernel
theorem d3_486 : decode prog_96_method_10_code 486 = .ok (.ifCond .ge 7, 3) := by decide +kernel
theorem d3_493 : decode prog_96_method_10_code 493 = .ok (.lconst 0, 1) := by decide +kernel
theorem d3_494 : decode prog_96_method_10_code 494 = .ok (.lstore 47, 2) := by decide +kernel
theorem d3_496 : decode prog_96_method_10_code 496 = .ok (.aload_n 0, 1) := by decide +kernel
theorem d3_497 : decode prog_96_method_10_code 497 = .ok (.getfield 28, 3) := by decide +kernel
theorem d3_500 : decode prog_96_method_10_code 500 = .ok (.lload 35, 2) := by decide +kernel
theorem d3_502 : decode prog_96_method_10_code 502 = .ok (.ladd, 1) := by decide +kernel
theorem d3_503 : decode prog_96_method_10_code 503 = .ok (.lstore 49, 2) := by decide +kernel
theorem d3_505 : decode prog_96_method_10_code 505 = .ok (.lload 49, 2) := by decide +kernel
theorem d3_507 : decode prog_96_method_10_code 507 = .ok (.lload 47, 2) := by decide +kernel
theorem d3_509 : decode prog_96_method_10_code 509 = .ok (.ladd, 1) := by decide +kernel
theorem d3_510 : decode prog_96_method_10_code 510 = .ok (.lstore 51, 2) := by decide +kernel
theorem d3_512 : decode prog_96_method_10_code 512 = .ok (.lload 49, 2) := by decide +kernel
theorem d3_514 : decode prog_96_method_10_code 514 = .ok (.aload_n 0, 1) := by decide +kernel
theorem d3_515 : decode prog_96_method_10_code 515 = .ok (.getfield 28, 3) := by decide +kernel
theorem d3_518 : decode prog_96_method_10_code 518 = .ok (.invokestatic 80, 3) := by decide +kernel
theorem d3_521 : decode prog_96_method_10_code 521 = .ok (.ifCond .lt 13, 3) := by decide +kernel
theorem d3_524 : decode prog_96_method_10_code 524 = .ok (.lload 51, 2) := by decide +kernel
theorem d3_526 : decode prog_96_method_10_code 526 = .ok (.lload 49, 2) := by decide +kernel
theorem d3_528 : decode prog_96_method_10_code 528 = .ok (.invokestatic 80, 3) := by decide +kernel
theorem d3_531 : decode prog_96_method_10_code 531 = .ok (.ifCond .ge 7, 3) := by decide +kernel
theorem d3_538 : decode prog_96_method_10_code 538 = .ok (.lconst 0, 1) := by decide +kernel
theorem d3_539 : decode prog_96_method_10_code 539 = .ok (.lstore 53, 2) := by decide +kernel
theorem d3_541 : decode prog_96_method_10_code 541 = .ok (.aload_n 0, 1) := by decide +kernel
theorem d3_542 : decode prog_96_method_10_code 542 = .ok (.getfield 31, 3) := by decide +kernel
theorem d3_545 : decode prog_96_method_10_code 545 = .ok (.lload 37, 2) := by decide +kernel
theorem d3_547 : decode prog_96_method_10_code 547 = .ok (.ladd, 1) := by decide +kernel
theorem d3_548 : decode prog_96_method_10_code 548 = .ok (.lload 53, 2) := by decide +kernel
theorem d3_550 : decode prog_96_method_10_code 550 = .ok (.ladd, 1) := by decide +kernel
theorem d3_551 : decode prog_96_method_10_code 551 = .ok (.lstore 55, 2) := by decide +kernel
theorem d3_553 : decode prog_96_method_10_code 553 = .ok (.aload_n 0, 1) := by decide +kernel
theorem d3_554 : decode prog_96_method_10_code 554 = .ok (.getfield 31, 3) := by decide +kernel
theorem d3_557 : decode prog_96_method_10_code 557 = .ok (.lload 55, 2) := by decide +kernel
theorem d3_559 : decode prog_96_method_10_code 559 = .ok (.lxor, 1) := by decide +kernel
theorem d3_560 : decode prog_96_method_10_code 560 = .ok (.lload 37, 2) := by decide +kernel
theorem d3_562 : decode prog_96_method_10_code 562 = .ok (.lload 55, 2) := by decide +kernel
theorem d3_564 : decode prog_96_method_10_code 564 = .ok (.lxor, 1) := by decide +kernel
theorem d3_565 : decode prog_96_method_10_code 565 = .ok (.land, 1) := by decide +kernel
theorem d3_566 : decode prog_96_method_10_code 566 = .ok (.lconst 0, 1) := by decide +kernel
theorem d3_567 : decode prog_96_method_10_code 567 = .ok (.lcmp, 1) := by decide +kernel
theorem d3_568 : decode prog_96_method_10_code 568 = .ok (.ifCond .ge 13, 3) := by decide +kernel
theorem d3_581 : decode prog_96_method_10_code 581 = .ok (.aload_n 0, 1) := by decide +kernel
theorem d3_582 : decode prog_96_method_10_code 582 = .ok (.lload 39, 2) := by decide +kernel
theorem d3_584 : decode prog_96_method_10_code 584 = .ok (.putfield 22, 3) := by decide +kernel
theorem d3_587 : decode prog_96_method_10_code 587 = .ok (.aload_n 0, 1) := by decide +kernel
theorem d3_588 : decode prog_96_method_10_code 588 = .ok (.lload 45, 2) := by decide +kernel
theorem d3_590 : decode prog_96_method_10_code 590 = .ok (.putfield 25, 3) := by decide +kernel
theorem d3_593 : decode prog_96_method_10_code 593 = .ok (.aload_n 0, 1) := by decide +kernel
theorem d3_594 : decode prog_96_method_10_code 594 = .ok (.lload 51, 2) := by decide +kernel
theorem d3_596 : decode prog_96_method_10_code 596 = .ok (.putfield 28, 3) := by decide +kernel
theorem d3_599 : decode prog_96_method_10_code 599 = .ok (.aload_n 0, 1) := by decide +kernel
theorem d3_600 : decode prog_96_method_10_code 600 = .ok (.lload 55, 2) := by decide +kernel
theorem d3_602 : decode prog_96_method_10_code 602 = .ok (.putfield 31, 3) := by decide +kernel
theorem d3_605 : decode prog_96_method_10_code 605 = .ok (.aload_n 0, 1) := by decide +kernel
theorem d3_606 : decode prog_96_method_10_code 606 = .ok (.iconst 0, 1) := by decide +kernel
theorem d3_607 : decode prog_96_method_10_code 607 = .ok (.putfield 34, 3) := by decide +kernel
theorem d3_610 : decode prog_96_method_10_code 610 = .ok (.return_, 1) := by decide +kernel
set_option maxRecDepth 65536 in
set_option maxHeartbeats 40000000 in
theorem addA (l : Launch) (Z : State) (a0 : Array Value) (hw : ∀ d ∈ tables_1, d.before a0 Z = true) (ws : List Jvm.Cond) (x : Addr) (cn : Int64) (hi : Int64) (lo : Int64) (ex : Int64) (h0 : Heap) (n0 : Nat) (Z0 : n0 ≤ h0.size) (q0 : Exa Z h0 x "com/example/evenkeel/evenkeel/share/FlooredSum") (q1 : @LE.le Nat instLENat n0 x) (q2 : Fld Z h0 x "com/example/evenkeel/evenkeel/share/FlooredSum" "point" "J" (.long (-9223372036854775808 : Int64))) (q3 : Fld Z h0 x "com/example/evenkeel/evenkeel/share/FlooredSum" "limb0" "J" (.long (0 : Int64))) (q4 : Fld Z h0 x "com/example/evenkeel/evenkeel/share/FlooredSum" "limb1" "J" (.long (0 : Int64))) (q5 : Fld Z h0 x "com/example/evenkeel/evenkeel/share/FlooredSum" "limb2" "J" (.long (0 : Int64))) (q6 : Fld Z h0 x "com/example/evenkeel/evenkeel/share/FlooredSum" "limb3" "J" (.long (0 : Int64))) (q7 : Fld Z h0 x "com/example/evenkeel/evenkeel/share/FlooredSum" "known" "Z" (.int (0 : Int32))) :
    MetFree l (⟨"com/example/evenkeel/evenkeel/share/FlooredSum", "add", "(JJJJ)V"⟩ : MethodName) (head1 (Jvm.Cond.code (⟨"com/example/evenkeel/evenkeel/share/FlooredSum", "add", "(JJJJ)V"⟩ : MethodName) prog_96_method_10_code 57 none :: ws) ({ frames := 2, cells := 0, slots := 0, locals := 50 } : Room)) (fun a_ U_ => a_ = #[(.ref x), (.long cn), (.long hi), (.long lo), (.long ex)] ∧ Z.Warmed39 U_.vm ∧ U_.heap = h0) (fun _ _ _ _ _ => True) (fun _ U_ o_ V_ => ∃ v_ L_, o_ = .returned v_ ∧ QaddA Z x cn hi lo ex h0 n0 v_ V_.heap L_ ∧ FrameEnd U_ o_ V_ L_ ({ frames := 2, cells := 0, slots := 0, locals := 50 } : Room).cells ({ frames := 2, cells := 0, slots := 0, locals := 50 } : Room).slots) := by
  refine MetFree.of_bodySF (plainFor_of_name pn_0) hisR ?_
  intro p e s m args below meth c s₁ Bd hml0 hP hK
  obtain ⟨rfl, hZ, hh⟩ := hP
  have hx := Bd.exec
  have hby := Bd.bytes
  have hml : c.maxLocals = 57 := hml0
  have hown : s.vm.findClass "com/example/evenkeel/evenkeel/share/FlooredSum" = some m.cls := findClass_of_methodNamed Bd.named
  have hnm := (name_of_methodNamed Bd.named Bd.method).1
  have X0 : Stand p l e ({ frames := 2, cells := 0, slots := 0, locals := 50 } : Room) s m #[(.ref x), (.long cn), (.long hi), (.long lo), (.long ex)] below meth c s₁ [] 0 0 := Stand.of_body Bd
  have e0 : s₁.heap = h0 := by rw [← hh, Bd.state]; rfl
  have N0 := Fr.nil n0
  have lt98 := own_alt q0.lt
  have lt99 := own_alt q2.lt
  have lt100 := own_alt q3.lt
  have lt101 := own_alt q4.lt
  have lt102 := own_alt q5.lt
  have lt103 := own_alt q6.lt
  have lt104 := own_alt q7.lt
  refine Gl.go (A := s₁.setTop (entryFrame m #[(.ref x), (.long cn), (.long hi), (.long lo), (.long ex)] 57)) (P := fun o_ U_ => ∃ v_ L_, o_ = .returned v_ ∧ QaddA Z x cn hi lo ex h0 n0 v_ U_.heap L_ ∧ FrameEnd s o_ U_ L_ ({ frames := 2, cells := 0, slots := 0, locals := 50 } : Room).cells ({ frames := 2, cells := 0, slots := 0, locals := 50 } : Room).slots) (fun t_ k_ => castTop (ef_addA m x cn hi lo ex) k_) ?_
  show Gl p.tables e below _ (s₁.setTop (mkF m 0 #[.val (.ref x), sJ cn, sS, sJ hi, sS, sJ lo, sS, sJ ex, sS, sU, sU, sU, sU, sU, sU, sU, sU, sU, sU, sU, sU, sU, sU, sU, sU, sU, sU, sU, sU, sU, sU, sU, sU, sU, sU, sU, sU, sU, sU, sU, sU, sU, sU, sU, sU, sU, sU, sU, sU, sU, sU, sU, sU, sU, sU, sU, sU] []))
  refine Gl.go (fun _ hr => zXS_aloadN X0.here hx rfl (hb hby d3_0) rfl rfl hr) ?_
  refine gGetF (host := "") Gl.cl X0 hx hZ hown (Or.inl (hw _ (List.mem_of_getElem? (i := 14) rfl))) Via.refl e0 q2 rfl rfl (hb hby d3_1) ?_
  intro T105 X105 e105
  refine Gl.go (X105.ldc2Long hx hown (mvT hZ (hw _ (List.mem_of_getElem? (i := 13) rfl))) rfl (hb hby d3_4)) ?_
  refine Gl.go (fun _ hr => zXT_lcmp X105.here hx rfl (hb hby d3_7) rfl (zXS_ifNo X105.here hx rfl (hb hby d3_8) rfl (XT.ll_ne_f (by decide)) (zXS_aloadN X105.here hx rfl (hb hby d3_11) rfl rfl (zXT_lload X105.here hx rfl (hb hby d3_12) rfl hr)))) ?_
  refine gPutF (host := "") Gl.cl X105 hx hZ hown (Or.inl (hw _ (List.mem_of_getElem? (i := 14) rfl))) Via.refl e105 q2 q0 (Or.inl (hw _ (List.mem_of_getElem? (i := 15) rfl))) (hw _ (List.mem_of_getElem? (i := 5) rfl)) (ty := .long) (by decide) rfl rfl rfl rfl (hb hby d3_14) ?_
  intro T106 h106 X106 e106 W106
  have z107 : h0.size ≤ h106.size := (Keep.of_wr W106).1
  have Fw106 := q2.same W106
  have N106 := Fr.snoc X106 N0 (own_ale (by omega))
  refine Gl.go (fun _ hr => zXT_lload X106.here hx rfl (hb hby d3_17) rfl (zXS_aloadN X106.here hx rfl (hb hby d3_19) rfl rfl hr)) ?_
  refine gGetF (host := "") Gl.cl X106 hx hZ hown (Or.inl (hw _ (List.mem_of_getElem? (i := 14) rfl))) Via.refl e106 Fw106 rfl rfl (hb hby d3_20) ?_
  intro T108 X108 e108
  refine Gl.go (fun _ hr => zXT_lcmp X108.here hx rfl (hb hby d3_23) rfl hr) ?_
  refine Gl.go (fun _ hr => zXS_ifYes X108.here hx rfl (pc0 := 24) (pc' := 46) rfl (hb hby d3_24) rfl (XT.ll_ge_t (own_irrJ _)) (by decide) (by decide) hr) ?_
  by_cases hE : (cn = 0 ∨ (hi = 0 ∧ lo = 0))
  · show Gl p.tables e below _ (T108.setTop (mkF m 46 #[.val (.ref x), sJ cn, sS, sJ hi, sS, sJ lo, sS, sJ ex, sS, sU, sU, sU, sU, sU, sU, sU, sU, sU, sU, sU, sU, sU, sU, sU, sU, sU, sU, sU, sU, sU, sU, sU, sU, sU, sU, sU, sU, sU, sU, sU, sU, sU, sU, sU, sU, sU, sU, sU, sU, sU, sU, sU, sU, sU, sU, sU, sU] []))
    refine Gl.go (fun _ hr => zXT_lloadN X108.here hx rfl (hb hby d3_46) rfl (zXT_lconst X108.here hx rfl (hb hby d3_47) (zXT_lcmp X108.here hx rfl (hb hby d3_48) rfl hr))) ?_
    by_cases hc109 : cn = (0 : Int64)
    · refine Gl.go (fun _ hr => zXS_ifYes X108.here hx rfl (pc0 := 49) (pc' := 65) rfl (hb hby d3_49) rfl (XT.ll_eq_t hc109) (by decide) (by decide) hr) ?_
      have Ec110 := (q0.wr W106)
      have Fc111 := (q3.other W106 (Or.inr (slot_ne (Or.inl (hw _ (List.mem_of_getElem? (i := 28) rfl))) (Or.inl (hw _ (List.mem_of_getElem? (i := 15) rfl))) (by decide) (t := .long) (t' := .long) (by decide) (by decide))))
      have Fc112 := (q4.other W106 (Or.inr (slot_ne (Or.inl (hw _ (List.mem_of_getElem? (i := 30) rfl))) (Or.inl (hw _ (List.mem_of_getElem? (i := 15) rfl))) (by decide) (t := .long) (t' := .long) (by decide) (by decide))))
      have Fc113 := (q5.other W106 (Or.inr (slot_ne (Or.inl (hw _ (List.mem_of_getElem? (i := 32) rfl))) (Or.inl (hw _ (List.mem_of_getElem? (i := 15) rfl))) (by decide) (t := .long) (t' := .long) (by decide) (by decide))))
      have Fc114 := (q6.other W106 (Or.inr (slot_ne (Or.inl (hw _ (List.mem_of_getElem? (i := 34) rfl))) (Or.inl (hw _ (List.mem_of_getElem? (i := 15) rfl))) (by decide) (t := .long) (t' := .long) (by decide) (by decide))))
      have Fc115 := (q7.other W106 (Or.inr (slot_ne (Or.inl (hw _ (List.mem_of_getElem? (i := 66) rfl))) (Or.inl (hw _ (List.mem_of_getElem? (i := 15) rfl))) (by decide) (t := .boolean) (t' := .long) (by decide) (by decide))))
      obtain ⟨fs, hr, hrun, hended, hW, hsame⟩ := X108.leave (v := none) (fun _ => rfl)
      refine ⟨_, _, X108.returnOut hx Bd.returns (hb hby d3_65) hr, hrun, hended, _, _, rfl, ?_, ⟨⟨_, rfl⟩, hW, hsame.mono (by decide) (by decide)⟩⟩
      show QaddA Z x cn hi lo ex h0 n0 _ T108.heap _
      rw [e108]
      exact ⟨(0 : Int64), (0 : Int64), (0 : Int64), (0 : Int64), rfl, N106, ((Keep.refl h0 [x]).wr W106 (Or.inl (by simp))), Ec110, Fw106, Fc111, Fc112, Fc113, Fc114, Fc115, (by rw [fA, if_pos hE]), (Or.inl rfl)⟩
    · refine Gl.go (fun _ hr => zXS_ifNo X108.here hx rfl (hb hby d3_49) rfl (XT.ll_eq_f hc109) (zXT_lloadN X108.here hx rfl (hb hby d3_52) rfl (zXT_lconst X108.here hx rfl (hb hby d3_53) (zXT_lcmp X108.here hx rfl (hb hby d3_54) rfl hr)))) ?_
      refine Gl.go (fun _ hr => zXS_ifNo X108.here hx rfl (hb hby d3_55) rfl (XT.ll_ne_f (hE.resolve_left hc109).1) (zXT_lload X108.here hx rfl (hb hby d3_58) rfl (zXT_lconst X108.here hx rfl (hb hby d3_60) (zXT_lcmp X108.here hx rfl (hb hby d3_61) rfl hr)))) ?_
      refine Gl.go (fun _ hr => zXS_ifNo X108.here hx rfl (hb hby d3_62) rfl (XT.ll_ne_f (hE.resolve_left hc109).2) hr) ?_
      have Ec116 := (q0.wr W106)
      have Fc117 := (q3.other W106 (Or.inr (slot_ne (Or.inl (hw _ (List.mem_of_getElem? (i := 28) rfl))) (Or.inl (hw _ (List.mem_of_getElem? (i := 15) rfl))) (by decide) (t := .long) (t' := .long) (by decide) (by decide))))
      have Fc118 := (q4.other W106 (Or.inr (slot_ne (Or.inl (hw _ (List.mem_of_getElem? (i := 30) rfl))) (Or.inl (hw _ (List.mem_of_getElem? (i := 15) rfl))) (by decide) (t := .long) (t' := .long) (by decide) (by decide))))
      have Fc119 := (q5.other W106 (Or.inr (slot_ne (Or.inl (hw _ (List.mem_of_getElem? (i := 32) rfl))) (Or.inl (hw _ (List.mem_of_getElem? (i := 15) rfl))) (by decide) (t := .long) (t' := .long) (by decide) (by decide))))
      have Fc120 := (q6.other W106 (Or.inr (slot_ne (Or.inl (hw _ (List.mem_of_getElem? (i := 34) rfl))) (Or.inl (hw _ (List.mem_of_getElem? (i := 15) rfl))) (by decide) (t := .long) (t' := .long) (by decide) (by decide))))
      have Fc121 := (q7.other W106 (Or.inr (slot_ne (Or.inl (hw _ (List.mem_of_getElem? (i := 66) rfl))) (Or.inl (hw _ (List.mem_of_getElem? (i := 15) rfl))) (by decide) (t := .boolean) (t' := .long) (by decide) (by decide))))
      obtain ⟨fs, hr, hrun, hended, hW, hsame⟩ := X108.leave (v := none) (fun _ => rfl)
      refine ⟨_, _, X108.returnOut hx Bd.returns (hb hby d3_65) hr, hrun, hended, _, _, rfl, ?_, ⟨⟨_, rfl⟩, hW, hsame.mono (by decide) (by decide)⟩⟩
      show QaddA Z x cn hi lo ex h0 n0 _ T108.heap _
      rw [e108]
      exact ⟨(0 : Int64), (0 : Int64), (0 : Int64), (0 : Int64), rfl, N106, ((Keep.refl h0 [x]).wr W106 (Or.inl (by simp))), Ec116, Fw106, Fc117, Fc118, Fc119, Fc120, Fc121, (by rw [fA, if_pos hE]), (Or.inl rfl)⟩
  · obtain ⟨T122, ⟨lc122, N122, X122, e122⟩, st122⟩ : Sg (fun U => ∃ lc, Fr n0 lc ∧ Stand p l e ({ frames := 2, cells := 0, slots := 0, locals := 50 } : Room) s m #[(.ref x), (.long cn), (.long hi), (.long lo), (.long ex)] below meth c U lc 0 0 ∧ U.heap = h106) (mkF m 66 #[.val (.ref x), sJ cn, sS, sJ hi, sS, sJ lo, sS, sJ ex, sS, sU, sU, sU, sU, sU, sU, sU, sU, sU, sU, sU, sU, sU, sU, sU, sU, sU, sU, sU, sU, sU, sU, sU, sU, sU, sU, sU, sU, sU, sU, sU, sU, sU, sU, sU, sU, sU, sU, sU, sU, sU, sU, sU, sU, sU, sU, sU, sU] []) p.tables e below (T108.setTop (mkF m 46 #[.val (.ref x), sJ cn, sS, sJ hi, sS, sJ lo, sS, sJ ex, sS, sU, sU, sU, sU, sU, sU, sU, sU, sU, sU, sU, sU, sU, sU, sU, sU, sU, sU, sU, sU, sU, sU, sU, sU, sU, sU, sU, sU, sU, sU, sU, sU, sU, sU, sU, sU, sU, sU, sU, sU, sU, sU, sU, sU, sU, sU, sU, sU] [])) := by
      refine Sg.go (fun _ hr => zXT_lloadN X108.here hx rfl (hb hby d3_46) rfl (zXT_lconst X108.here hx rfl (hb hby d3_47) (zXT_lcmp X108.here hx rfl (hb hby d3_48) rfl hr))) ?_
      refine Sg.go (fun _ hr => zXS_ifNo X108.here hx rfl (hb hby d3_49) rfl (XT.ll_eq_f (fun q => hE (Or.inl q))) (zXT_lloadN X108.here hx rfl (hb hby d3_52) rfl (zXT_lconst X108.here hx rfl (hb hby d3_53) (zXT_lcmp X108.here hx rfl (hb hby d3_54) rfl hr)))) ?_
      by_cases hc123 : hi = (0 : Int64)
      · refine Sg.go (fun _ hr => zXS_ifNo X108.here hx rfl (hb hby d3_55) rfl (XT.ll_ne_f hc123) (zXT_lload X108.here hx rfl (hb hby d3_58) rfl (zXT_lconst X108.here hx rfl (hb hby d3_60) (zXT_lcmp X108.here hx rfl (hb hby d3_61) rfl hr)))) ?_
        refine Sg.go (fun _ hr => zXS_ifYes X108.here hx rfl (pc0 := 62) (pc' := 66) rfl (hb hby d3_62) rfl (XT.ll_ne_t (fun q => hE (Or.inr ⟨hc123, q⟩))) (by decide) (by decide) hr) ?_
        show Sg _ _ p.tables e below (T108.setTop (mkF m 66 #[.val (.ref x), sJ cn, sS, sJ hi, sS, sJ lo, sS, sJ ex, sS, sU, sU, sU, sU, sU, sU, sU, sU, sU, sU, sU, sU, sU, sU, sU, sU, sU, sU, sU, sU, sU, sU, sU, sU, sU, sU, sU, sU, sU, sU, sU, sU, sU, sU, sU, sU, sU, sU, sU, sU, sU, sU, sU, sU, sU, sU, sU, sU] []))
        exact ⟨T108, ⟨_, N106, X108, e108⟩, fun _ hr => hr⟩
      · refine Sg.go (fun _ hr => zXS_ifYes X108.here hx rfl (pc0 := 55) (pc' := 66) rfl (hb hby d3_55) rfl (XT.ll_ne_t hc123) (by decide) (by decide) hr) ?_
        show Sg _ _ p.tables e below (T108.setTop (mkF m 66 #[.val (.ref x), sJ cn, sS, sJ hi, sS, sJ lo, sS, sJ ex, sS, sU, sU, sU, sU, sU, sU, sU, sU, sU, sU, sU, sU, sU, sU, sU, sU, sU, sU, sU, sU, sU, sU, sU, sU, sU, sU, sU, sU, sU, sU, sU, sU, sU, sU, sU, sU, sU, sU, sU, sU, sU, sU, sU, sU, sU, sU, sU, sU] []))
        exact ⟨T108, ⟨_, N106, X108, e108⟩, fun _ hr => hr⟩
    refine Gl.go st122 ?_
    show Gl p.tables e below _ (T122.setTop (mkF m 66 #[.val (.ref x), sJ cn, sS, sJ hi, sS, sJ lo, sS, sJ ex, sS, sU, sU, sU, sU, sU, sU, sU, sU, sU, sU, sU, sU, sU, sU, sU, sU, sU, sU, sU, sU, sU, sU, sU, sU, sU, sU, sU, sU, sU, sU, sU, sU, sU, sU, sU, sU, sU, sU, sU, sU, sU, sU, sU, sU, sU, sU, sU, sU] []))
    refine Gl.go (fun _ hr => zXT_lloadN X122.here hx rfl (hb hby d3_66) rfl hr) ?_
    have zz124 : n0 ≤ h106.size := by omega
    refine gStaticN Gl.cl (y := (⟨"java/lang/Math", "abs", "(J)J"⟩ : MethodName)) (argsL := [(.long cn)]) (rest := []) (mc := 0) (ms := 0) X122 hx hZ hown (mvT hZ (hw _ (List.mem_of_getElem? (i := 35) rfl))) (mvT hZ (hw _ (List.mem_of_getElem? (i := 36) rfl))) (mvT hZ (hw _ (List.mem_of_getElem? (i := 37) rfl))) (mvT hZ (hw _ (List.mem_of_getElem? (i := 38) rfl))) (by decide) (backOf (W := 0) (absm l Z a0 hw [] cn h106 n0 zz124 ) hZ (hw _ (List.mem_of_getElem? (i := 38) rfl)) (hw _ (List.mem_of_getElem? (i := 37) rfl)) (by decide) (by decide)) rfl (by rw [hml]; rfl) (lenOf pd_3 rfl) rfl (by show 2 * 0 + _ ≤ _; exact Nat.le_of_eq rfl) (hb hby d3_67) rfl e122 (by decide) (by decide) ?_
    intro v124 T124 Lc124 hQ124 X124
    obtain ⟨rfl, Nq124, e124⟩ := hQ124
    have N124 := Fr.app N122 Nq124
    refine Gl.go (fun _ hr => zXT_lstore X124.here hx rfl (hb hby d3_70) rfl (l' := #[.val (.ref x), sJ cn, sS, sJ hi, sS, sJ lo, sS, sJ ex, sS, sJ (fMag cn), sS, sU, sU, sU, sU, sU, sU, sU, sU, sU, sU, sU, sU, sU, sU, sU, sU, sU, sU, sU, sU, sU, sU, sU, sU, sU, sU, sU, sU, sU, sU, sU, sU, sU, sU, sU, sU, sU, sU, sU, sU, sU, sU, sU, sU, sU, sU]) rfl (zXT_lload X124.here hx rfl (hb hby d3_72) rfl (zXT_lload X124.here hx rfl (hb hby d3_74) rfl (zXT_lmul X124.here hx rfl (hb hby d3_76) rfl (zXT_lstore X124.here hx rfl (hb hby d3_77) rfl (l' := #[.val (.ref x), sJ cn, sS, sJ hi, sS, sJ lo, sS, sJ ex, sS, sJ (fMag cn), sS, sJ ((fMag cn) * lo), sS, sU, sU, sU, sU, sU, sU, sU, sU, sU, sU, sU, sU, sU, sU, sU, sU, sU, sU, sU, sU, sU, sU, sU, sU, sU, sU, sU, sU, sU, sU, sU, sU, sU, sU, sU, sU, sU, sU, sU, sU, sU, sU, sU, sU]) rfl (zXT_lload X124.here hx rfl (hb hby d3_79) rfl (zXT_lload X124.here hx rfl (hb hby d3_81) rfl hr))))))) ?_
    have zz125 : n0 ≤ h106.size := by omega
    refine gStaticN Gl.cl (y := (⟨"com/example/evenkeel/evenkeel/share/FlooredSum", "unsignedMultiplyHigh", "(JJ)J"⟩ : MethodName)) (argsL := [(.long (fMag cn)), (.long lo)]) (rest := []) (mc := 0) (ms := 0) X124 hx hZ hown (mvT hZ (hw _ (List.mem_of_getElem? (i := 39) rfl))) (mvT hZ (hw _ (List.mem_of_getElem? (i := 40) rfl))) (mvT hZ (hw _ (List.mem_of_getElem? (i := 6) rfl))) (mvT hZ (hw _ (List.mem_of_getElem? (i := 41) rfl))) (by decide) (backOf (W := 0) (umh l Z a0 hw [] (fMag cn) lo h106 n0 zz125 ) hZ (hw _ (List.mem_of_getElem? (i := 41) rfl)) (hw _ (List.mem_of_getElem? (i := 6) rfl)) (by decide) (by decide)) rfl (by rw [hml]; rfl) (lenOf pd_0 rfl) rfl (by show 2 * 0 + _ ≤ _; exact Nat.le_of_eq rfl) (hb hby d3_83) rfl e124 (by decide) (by decide) ?_
    intro v125 T125 Lc125 hQ125 X125
    obtain ⟨rfl, Nq125, e125⟩ := hQ125
    have N125 := Fr.app N124 Nq125
    refine Gl.go (fun _ hr => zXT_lstore X125.here hx rfl (hb hby d3_86) rfl (l' := #[.val (.ref x), sJ cn, sS, sJ hi, sS, sJ lo, sS, sJ ex, sS, sJ (fMag cn), sS, sJ ((fMag cn) * lo), sS, sJ (fUMH (fMag cn) lo), sS, sU, sU, sU, sU, sU, sU, sU, sU, sU, sU, sU, sU, sU, sU, sU, sU, sU, sU, sU, sU, sU, sU, sU, sU, sU, sU, sU, sU, sU, sU, sU, sU, sU, sU, sU, sU, sU, sU, sU, sU, sU, sU]) rfl (zXT_lload X125.here hx rfl (hb hby d3_88) rfl (zXT_lload X125.here hx rfl (hb hby d3_90) rfl (zXT_lloadN X125.here hx rfl (hb hby d3_92) rfl (zXT_lmul X125.here hx rfl (hb hby d3_93) rfl (zXT_ladd X125.here hx rfl (hb hby d3_94) rfl hr)))))) ?_
    show Gl p.tables e below _ (T125.setTop (mkF m 95 #[.val (.ref x), sJ cn, sS, sJ hi, sS, sJ lo, sS, sJ ex, sS, sJ (fMag cn), sS, sJ ((fMag cn) * lo), sS, sJ (fUMH (fMag cn) lo), sS, sU, sU, sU, sU, sU, sU, sU, sU, sU, sU, sU, sU, sU, sU, sU, sU, sU, sU, sU, sU, sU, sU, sU, sU, sU, sU, sU, sU, sU, sU, sU, sU, sU, sU, sU, sU, sU, sU, sU, sU, sU, sU] [(.long (fP1 cn hi lo))]))
    refine Gl.go (fun _ hr => zXT_lstore X125.here hx rfl (hb hby d3_95) rfl (l' := #[.val (.ref x), sJ cn, sS, sJ hi, sS, sJ lo, sS, sJ ex, sS, sJ (fMag cn), sS, sJ ((fMag cn) * lo), sS, sJ (fUMH (fMag cn) lo), sS, sJ (fP1 cn hi lo), sS, sU, sU, sU, sU, sU, sU, sU, sU, sU, sU, sU, sU, sU, sU, sU, sU, sU, sU, sU, sU, sU, sU, sU, sU, sU, sU, sU, sU, sU, sU, sU, sU, sU, sU, sU, sU, sU, sU, sU, sU]) rfl (zXT_lload X125.here hx rfl (hb hby d3_97) rfl (zXT_lloadN X125.here hx rfl (hb hby d3_99) rfl hr))) ?_
    have zz126 : n0 ≤ h106.size := by omega
    refine gStaticN Gl.cl (y := (⟨"java/lang/Math", "multiplyHigh", "(JJ)J"⟩ : MethodName)) (argsL := [(.long (fMag cn)), (.long hi)]) (rest := []) (mc := 0) (ms := 0) X125 hx hZ hown (mvT hZ (hw _ (List.mem_of_getElem? (i := 42) rfl))) (mvT hZ (hw _ (List.mem_of_getElem? (i := 43) rfl))) (mvT hZ (hw _ (List.mem_of_getElem? (i := 37) rfl))) (mvT hZ (hw _ (List.mem_of_getElem? (i := 44) rfl))) (by decide) (backOf (W := 0) (mhm l Z a0 hw [] (fMag cn) hi h106 n0 zz126 ) hZ (hw _ (List.mem_of_getElem? (i := 44) rfl)) (hw _ (List.mem_of_getElem? (i := 37) rfl)) (by decide) (by decide)) rfl (by rw [hml]; rfl) (lenOf pd_0 rfl) rfl (by show 2 * 0 + _ ≤ _; exact Nat.le_of_eq rfl) (hb hby d3_100) rfl e125 (by decide) (by decide) ?_
    intro v126 T126 Lc126 hQ126 X126
    obtain ⟨rfl, Nq126, e126⟩ := hQ126
    have N126 := Fr.app N125 Nq126
    refine Gl.go (fun _ hr => zXT_lload X126.here hx rfl (hb hby d3_103) rfl (zXT_lload X126.here hx rfl (hb hby d3_105) rfl hr)) ?_
    have zz127 : n0 ≤ h106.size := by omega
    refine gStaticN Gl.cl (y := (⟨"java/lang/Long", "compareUnsigned", "(JJ)I"⟩ : MethodName)) (argsL := [(.long (fP1 cn hi lo)), (.long (fUMH (fMag cn) lo))]) (rest := [(.long (fMH (fMag cn) hi))]) (mc := 0) (ms := 0) X126 hx hZ hown (mvT hZ (hw _ (List.mem_of_getElem? (i := 46) rfl))) (mvT hZ (hw _ (List.mem_of_getElem? (i := 47) rfl))) (mvT hZ (hw _ (List.mem_of_getElem? (i := 48) rfl))) (mvT hZ (hw _ (List.mem_of_getElem? (i := 49) rfl))) (by decide) (backOf (W := 2) (cum l Z a0 hw [] (fP1 cn hi lo) (fUMH (fMag cn) lo) h106 n0 zz127 ) hZ (hw _ (List.mem_of_getElem? (i := 49) rfl)) (hw _ (List.mem_of_getElem? (i := 48) rfl)) (by decide) (by decide)) rfl (by rw [hml]; rfl) (lenOf pd_1 rfl) rfl (by show 2 * 0 + _ ≤ _; exact Nat.le_of_eq rfl) (hb hby d3_107) rfl e126 (by decide) (by decide) ?_
    intro v127 T127 Lc127 hQ127 X127
    obtain ⟨rfl, Nq127, e127⟩ := hQ127
    have N127 := Fr.app N126 Nq127
    obtain ⟨T128, ⟨lc128, N128, X128, e128⟩, st128⟩ : Sg (fun U => ∃ lc, Fr n0 lc ∧ Stand p l e ({ frames := 2, cells := 0, slots := 0, locals := 50 } : Room) s m #[(.ref x), (.long cn), (.long hi), (.long lo), (.long ex)] below meth c U lc 0 0 ∧ U.heap = h106) (mkF m 118 #[.val (.ref x), sJ cn, sS, sJ hi, sS, sJ lo, sS, sJ ex, sS, sJ (fMag cn), sS, sJ ((fMag cn) * lo), sS, sJ (fUMH (fMag cn) lo), sS, sJ (fP1 cn hi lo), sS, sU, sU, sU, sU, sU, sU, sU, sU, sU, sU, sU, sU, sU, sU, sU, sU, sU, sU, sU, sU, sU, sU, sU, sU, sU, sU, sU, sU, sU, sU, sU, sU, sU, sU, sU, sU, sU, sU, sU, sU] [(.int (if cu (fP1 cn hi lo) (fUMH (fMag cn) lo) < 0 then (1 : Int32) else 0)), (.long (fMH (fMag cn) hi))]) p.tables e below (T127.setTop (mkF m 110 #[.val (.ref x), sJ cn, sS, sJ hi, sS, sJ lo, sS, sJ ex, sS, sJ (fMag cn), sS, sJ ((fMag cn) * lo), sS, sJ (fUMH (fMag cn) lo), sS, sJ (fP1 cn hi lo), sS, sU, sU, sU, sU, sU, sU, sU, sU, sU, sU, sU, sU, sU, sU, sU, sU, sU, sU, sU, sU, sU, sU, sU, sU, sU, sU, sU, sU, sU, sU, sU, sU, sU, sU, sU, sU, sU, sU, sU, sU] [(.int (cu (fP1 cn hi lo) (fUMH (fMag cn) lo))), (.long (fMH (fMag cn) hi))])) := by
      by_cases hc129 : (cu (fP1 cn hi lo) (fUMH (fMag cn) lo)) < (0 : Int32)
      · refine Sg.go (fun _ hr => zXS_ifNo X127.here hx rfl (hb hby d3_110) rfl (XT.i0_ge_f hc129) (zXS_iconst X127.here hx rfl (hb hby d3_113) (zXS_goto X127.here hx rfl (pc0 := 114) (pc' := 118) rfl (hb hby d3_114) (by decide) (by decide) hr))) ?_
        show Sg _ _ p.tables e below (T127.setTop (mkF m 118 #[.val (.ref x), sJ cn, sS, sJ hi, sS, sJ lo, sS, sJ ex, sS, sJ (fMag cn), sS, sJ ((fMag cn) * lo), sS, sJ (fUMH (fMag cn) lo), sS, sJ (fP1 cn hi lo), sS, sU, sU, sU, sU, sU, sU, sU, sU, sU, sU, sU, sU, sU, sU, sU, sU, sU, sU, sU, sU, sU, sU, sU, sU, sU, sU, sU, sU, sU, sU, sU, sU, sU, sU, sU, sU, sU, sU, sU, sU] [(.int (1 : Int32)), (.long (fMH (fMag cn) hi))]))
        exact ⟨T127, ⟨_, N127, X127, e127⟩, fun _ hr => by rw [if_pos hc129] at hr; exact hr⟩
      · refine Sg.go (fun _ hr => zXS_ifYes X127.here hx rfl (pc0 := 110) (pc' := 117) rfl (hb hby d3_110) rfl (XT.i0_ge_t hc129) (by decide) (by decide) (zXS_iconst X127.here hx rfl (hb hby d3_117) hr)) ?_
        show Sg _ _ p.tables e below (T127.setTop (mkF m 118 #[.val (.ref x), sJ cn, sS, sJ hi, sS, sJ lo, sS, sJ ex, sS, sJ (fMag cn), sS, sJ ((fMag cn) * lo), sS, sJ (fUMH (fMag cn) lo), sS, sJ (fP1 cn hi lo), sS, sU, sU, sU, sU, sU, sU, sU, sU, sU, sU, sU, sU, sU, sU, sU, sU, sU, sU, sU, sU, sU, sU, sU, sU, sU, sU, sU, sU, sU, sU, sU, sU, sU, sU, sU, sU, sU, sU, sU, sU] [(.int (0 : Int32)), (.long (fMH (fMag cn) hi))]))
        exact ⟨T127, ⟨_, N127, X127, e127⟩, fun _ hr => by rw [if_neg hc129] at hr; exact hr⟩
    refine Gl.go st128 ?_
    show Gl p.tables e below _ (T128.setTop (mkF m 118 #[.val (.ref x), sJ cn, sS, sJ hi, sS, sJ lo, sS, sJ ex, sS, sJ (fMag cn), sS, sJ ((fMag cn) * lo), sS, sJ (fUMH (fMag cn) lo), sS, sJ (fP1 cn hi lo), sS, sU, sU, sU, sU, sU, sU, sU, sU, sU, sU, sU, sU, sU, sU, sU, sU, sU, sU, sU, sU, sU, sU, sU, sU, sU, sU, sU, sU, sU, sU, sU, sU, sU, sU, sU, sU, sU, sU, sU, sU] [(.int (if cu (fP1 cn hi lo) (fUMH (fMag cn) lo) < 0 then (1 : Int32) else 0)), (.long (fMH (fMag cn) hi))]))
    refine Gl.go (fun _ hr => zXT_i2l X128.here hx rfl (hb hby d3_118) rfl (zXT_ladd X128.here hx rfl (hb hby d3_119) rfl hr)) ?_
    show Gl p.tables e below _ (T128.setTop (mkF m 120 #[.val (.ref x), sJ cn, sS, sJ hi, sS, sJ lo, sS, sJ ex, sS, sJ (fMag cn), sS, sJ ((fMag cn) * lo), sS, sJ (fUMH (fMag cn) lo), sS, sJ (fP1 cn hi lo), sS, sU, sU, sU, sU, sU, sU, sU, sU, sU, sU, sU, sU, sU, sU, sU, sU, sU, sU, sU, sU, sU, sU, sU, sU, sU, sU, sU, sU, sU, sU, sU, sU, sU, sU, sU, sU, sU, sU, sU, sU] [(.long (fP2 cn hi lo))]))
    refine Gl.go (fun _ hr => zXT_lstore X128.here hx rfl (hb hby d3_120) rfl (l' := #[.val (.ref x), sJ cn, sS, sJ hi, sS, sJ lo, sS, sJ ex, sS, sJ (fMag cn), sS, sJ ((fMag cn) * lo), sS, sJ (fUMH (fMag cn) lo), sS, sJ (fP1 cn hi lo), sS, sJ (fP2 cn hi lo), sS, sU, sU, sU, sU, sU, sU, sU, sU, sU, sU, sU, sU, sU, sU, sU, sU, sU, sU, sU, sU, sU, sU, sU, sU, sU, sU, sU, sU, sU, sU, sU, sU, sU, sU, sU, sU, sU, sU]) rfl (zXT_lload X128.here hx rfl (hb hby d3_122) rfl (zXS_aloadN X128.here hx rfl (hb hby d3_124) rfl rfl hr))) ?_
    refine gGetF (host := "") Gl.cl X128 hx hZ hown (Or.inl (hw _ (List.mem_of_getElem? (i := 14) rfl))) Via.refl e128 Fw106 rfl rfl (hb hby d3_125) ?_
    intro T130 X130 e130
    refine Gl.go (fun _ hr => zXT_lsub X130.here hx rfl (hb hby d3_128) rfl hr) ?_
    show Gl p.tables e below _ (T130.setTop (mkF m 129 #[.val (.ref x), sJ cn, sS, sJ hi, sS, sJ lo, sS, sJ ex, sS, sJ (fMag cn), sS, sJ ((fMag cn) * lo), sS, sJ (fUMH (fMag cn) lo), sS, sJ (fP1 cn hi lo), sS, sJ (fP2 cn hi lo), sS, sU, sU, sU, sU, sU, sU, sU, sU, sU, sU, sU, sU, sU, sU, sU, sU, sU, sU, sU, sU, sU, sU, sU, sU, sU, sU, sU, sU, sU, sU, sU, sU, sU, sU, sU, sU, sU, sU] [(.long (ex - ex))]))
    rw [Int64.sub_self]
    show Gl p.tables e below _ (T130.setTop (mkF m 129 #[.val (.ref x), sJ cn, sS, sJ hi, sS, sJ lo, sS, sJ ex, sS, sJ (fMag cn), sS, sJ ((fMag cn) * lo), sS, sJ (fUMH (fMag cn) lo), sS, sJ (fP1 cn hi lo), sS, sJ (fP2 cn hi lo), sS, sU, sU, sU, sU, sU, sU, sU, sU, sU, sU, sU, sU, sU, sU, sU, sU, sU, sU, sU, sU, sU, sU, sU, sU, sU, sU, sU, sU, sU, sU, sU, sU, sU, sU, sU, sU, sU, sU] [(.long (0 : Int64))]))
    refine Gl.go (fun _ hr => zXT_lstore X130.here hx rfl (hb hby d3_129) rfl (l' := #[.val (.ref x), sJ cn, sS, sJ hi, sS, sJ lo, sS, sJ ex, sS, sJ (fMag cn), sS, sJ ((fMag cn) * lo), sS, sJ (fUMH (fMag cn) lo), sS, sJ (fP1 cn hi lo), sS, sJ (fP2 cn hi lo), sS, sJ 0, sS, sU, sU, sU, sU, sU, sU, sU, sU, sU, sU, sU, sU, sU, sU, sU, sU, sU, sU, sU, sU, sU, sU, sU, sU, sU, sU, sU, sU, sU, sU, sU, sU, sU, sU, sU, sU]) rfl (zXT_lload X130.here hx rfl (hb hby d3_131) rfl (zXS_sipush X130.here hx rfl (hb hby d3_133) (zXS_sipush X130.here hx rfl (hb hby d3_136) (zXT_lload X130.here hx rfl (hb hby d3_139) rfl hr))))) ?_
    have zz131 : n0 ≤ h106.size := by omega
    refine gStaticN Gl.cl (y := (⟨"java/lang/Long", "numberOfLeadingZeros", "(J)I"⟩ : MethodName)) (argsL := [(.long (fP2 cn hi lo))]) (rest := [(.int (192 : Int32)), (.int (255 : Int32)), (.long (0 : Int64))]) (mc := 0) (ms := 0) X130 hx hZ hown (mvT hZ (hw _ (List.mem_of_getElem? (i := 54) rfl))) (mvT hZ (hw _ (List.mem_of_getElem? (i := 55) rfl))) (mvT hZ (hw _ (List.mem_of_getElem? (i := 48) rfl))) (mvT hZ (hw _ (List.mem_of_getElem? (i := 56) rfl))) (by decide) (backOf (W := 4) (nlzj l Z a0 hw [] (fP2 cn hi lo) h106 n0 zz131 ) hZ (hw _ (List.mem_of_getElem? (i := 56) rfl)) (hw _ (List.mem_of_getElem? (i := 48) rfl)) (by decide) (by decide)) rfl (by rw [hml]; rfl) (lenOf pd_4 rfl) rfl (by show 2 * 0 + _ ≤ _; exact Nat.le_of_eq rfl) (hb hby d3_141) rfl e130 (by decide) (by decide) ?_
    intro v131 T131 Lc131 hQ131 X131
    obtain ⟨r_131, rfl, Nq131, e131, p131_nb⟩ := hQ131
    have N131 := Fr.app N128 Nq131
    refine Gl.go (fun _ hr => zXS_isub X131.here hx rfl (hb hby d3_144) rfl (zXS_isub X131.here hx rfl (hb hby d3_145) rfl (zXT_i2l X131.here hx rfl (hb hby d3_146) rfl (zXT_lcmp X131.here hx rfl (hb hby d3_147) rfl hr)))) ?_
    refine Gl.go (fun _ hr => zXS_ifYes X131.here hx rfl (pc0 := 148) (pc' := 161) rfl (hb hby d3_148) rfl (XT.ll_le_t (own_nlz0 p131_nb)) (by decide) (by decide) (zXT_lload X131.here hx rfl (hb hby d3_161) rfl (zXS_bipush X131.here hx rfl (hb hby d3_163) (zXT_lushr X131.here hx rfl (hb hby d3_165) rfl (zXT_l2i X131.here hx rfl (hb hby d3_166) rfl (zXS_istore X131.here hx rfl (hb hby d3_167) rfl (l' := #[.val (.ref x), sJ cn, sS, sJ hi, sS, sJ lo, sS, sJ ex, sS, sJ (fMag cn), sS, sJ ((fMag cn) * lo), sS, sJ (fUMH (fMag cn) lo), sS, sJ (fP1 cn hi lo), sS, sJ (fP2 cn hi lo), sS, sJ 0, sS, sI 0, sU, sU, sU, sU, sU, sU, sU, sU, sU, sU, sU, sU, sU, sU, sU, sU, sU, sU, sU, sU, sU, sU, sU, sU, sU, sU, sU, sU, sU, sU, sU, sU, sU, sU, sU]) rfl (zXT_lload X131.here hx rfl (hb hby d3_169) rfl hr))))))) ?_
    refine Gl.go (X131.ldc2Long hx hown (mvT hZ (hw _ (List.mem_of_getElem? (i := 61) rfl))) rfl (hb hby d3_171)) ?_
    refine Gl.go (fun _ hr => zXT_land X131.here hx rfl (hb hby d3_174) rfl (zXT_l2i X131.here hx rfl (hb hby d3_175) rfl (zXS_istore X131.here hx rfl (hb hby d3_176) rfl (l' := #[.val (.ref x), sJ cn, sS, sJ hi, sS, sJ lo, sS, sJ ex, sS, sJ (fMag cn), sS, sJ ((fMag cn) * lo), sS, sJ (fUMH (fMag cn) lo), sS, sJ (fP1 cn hi lo), sS, sJ (fP2 cn hi lo), sS, sJ 0, sS, sI 0, sI 0, sU, sU, sU, sU, sU, sU, sU, sU, sU, sU, sU, sU, sU, sU, sU, sU, sU, sU, sU, sU, sU, sU, sU, sU, sU, sU, sU, sU, sU, sU, sU, sU, sU, sU]) rfl (zXT_lload X131.here hx rfl (hb hby d3_178) rfl (zXS_iload X131.here hx rfl (hb hby d3_180) rfl (zXT_lshl X131.here hx rfl (hb hby d3_182) rfl hr)))))) ?_
    show Gl p.tables e below _ (T131.setTop (mkF m 183 #[.val (.ref x), sJ cn, sS, sJ hi, sS, sJ lo, sS, sJ ex, sS, sJ (fMag cn), sS, sJ ((fMag cn) * lo), sS, sJ (fUMH (fMag cn) lo), sS, sJ (fP1 cn hi lo), sS, sJ (fP2 cn hi lo), sS, sJ 0, sS, sI 0, sI 0, sU, sU, sU, sU, sU, sU, sU, sU, sU, sU, sU, sU, sU, sU, sU, sU, sU, sU, sU, sU, sU, sU, sU, sU, sU, sU, sU, sU, sU, sU, sU, sU, sU, sU] [(.long (fS0 cn lo))]))
    refine Gl.go (fun _ hr => zXT_lstore X131.here hx rfl (hb hby d3_183) rfl (l' := #[.val (.ref x), sJ cn, sS, sJ hi, sS, sJ lo, sS, sJ ex, sS, sJ (fMag cn), sS, sJ ((fMag cn) * lo), sS, sJ (fUMH (fMag cn) lo), sS, sJ (fP1 cn hi lo), sS, sJ (fP2 cn hi lo), sS, sJ 0, sS, sI 0, sI 0, sJ (fS0 cn lo), sS, sU, sU, sU, sU, sU, sU, sU, sU, sU, sU, sU, sU, sU, sU, sU, sU, sU, sU, sU, sU, sU, sU, sU, sU, sU, sU, sU, sU, sU, sU, sU, sU]) rfl (zXT_lload X131.here hx rfl (hb hby d3_185) rfl (zXS_iload X131.here hx rfl (hb hby d3_187) rfl (zXT_lshl X131.here hx rfl (hb hby d3_189) rfl (zXS_iload X131.here hx rfl (hb hby d3_190) rfl (zXS_ifNo X131.here hx rfl (hb hby d3_192) rfl (XT.i0_ne_f (by decide)) (zXT_lconst X131.here hx rfl (hb hby d3_195) (zXS_goto X131.here hx rfl (pc0 := 196) (pc' := 207) rfl (hb hby d3_196) (by decide) (by decide) (zXT_lor X131.here hx rfl (hb hby d3_207) rfl hr))))))))) ?_
    show Gl p.tables e below _ (T131.setTop (mkF m 208 #[.val (.ref x), sJ cn, sS, sJ hi, sS, sJ lo, sS, sJ ex, sS, sJ (fMag cn), sS, sJ ((fMag cn) * lo), sS, sJ (fUMH (fMag cn) lo), sS, sJ (fP1 cn hi lo), sS, sJ (fP2 cn hi lo), sS, sJ 0, sS, sI 0, sI 0, sJ (fS0 cn lo), sS, sU, sU, sU, sU, sU, sU, sU, sU, sU, sU, sU, sU, sU, sU, sU, sU, sU, sU, sU, sU, sU, sU, sU, sU, sU, sU, sU, sU, sU, sU, sU, sU] [(.long (fS1 cn hi lo))]))
    refine Gl.go (fun _ hr => zXT_lstore X131.here hx rfl (hb hby d3_208) rfl (l' := #[.val (.ref x), sJ cn, sS, sJ hi, sS, sJ lo, sS, sJ ex, sS, sJ (fMag cn), sS, sJ ((fMag cn) * lo), sS, sJ (fUMH (fMag cn) lo), sS, sJ (fP1 cn hi lo), sS, sJ (fP2 cn hi lo), sS, sJ 0, sS, sI 0, sI 0, sJ (fS0 cn lo), sS, sJ (fS1 cn hi lo), sS, sU, sU, sU, sU, sU, sU, sU, sU, sU, sU, sU, sU, sU, sU, sU, sU, sU, sU, sU, sU, sU, sU, sU, sU, sU, sU, sU, sU, sU, sU]) rfl (zXT_lload X131.here hx rfl (hb hby d3_210) rfl (zXS_iload X131.here hx rfl (hb hby d3_212) rfl (zXT_lshl X131.here hx rfl (hb hby d3_214) rfl (zXS_iload X131.here hx rfl (hb hby d3_215) rfl (zXS_ifNo X131.here hx rfl (hb hby d3_217) rfl (XT.i0_ne_f (by decide)) (zXT_lconst X131.here hx rfl (hb hby d3_220) (zXS_goto X131.here hx rfl (pc0 := 221) (pc' := 232) rfl (hb hby d3_221) (by decide) (by decide) (zXT_lor X131.here hx rfl (hb hby d3_232) rfl hr))))))))) ?_
    show Gl p.tables e below _ (T131.setTop (mkF m 233 #[.val (.ref x), sJ cn, sS, sJ hi, sS, sJ lo, sS, sJ ex, sS, sJ (fMag cn), sS, sJ ((fMag cn) * lo), sS, sJ (fUMH (fMag cn) lo), sS, sJ (fP1 cn hi lo), sS, sJ (fP2 cn hi lo), sS, sJ 0, sS, sI 0, sI 0, sJ (fS0 cn lo), sS, sJ (fS1 cn hi lo), sS, sU, sU, sU, sU, sU, sU, sU, sU, sU, sU, sU, sU, sU, sU, sU, sU, sU, sU, sU, sU, sU, sU, sU, sU, sU, sU, sU, sU, sU, sU] [(.long (fS2 cn hi lo))]))
    refine Gl.go (fun _ hr => zXT_lstore X131.here hx rfl (hb hby d3_233) rfl (l' := #[.val (.ref x), sJ cn, sS, sJ hi, sS, sJ lo, sS, sJ ex, sS, sJ (fMag cn), sS, sJ ((fMag cn) * lo), sS, sJ (fUMH (fMag cn) lo), sS, sJ (fP1 cn hi lo), sS, sJ (fP2 cn hi lo), sS, sJ 0, sS, sI 0, sI 0, sJ (fS0 cn lo), sS, sJ (fS1 cn hi lo), sS, sJ (fS2 cn hi lo), sS, sU, sU, sU, sU, sU, sU, sU, sU, sU, sU, sU, sU, sU, sU, sU, sU, sU, sU, sU, sU, sU, sU, sU, sU, sU, sU, sU, sU]) rfl (zXS_iload X131.here hx rfl (hb hby d3_235) rfl (zXS_ifNo X131.here hx rfl (hb hby d3_237) rfl (XT.i0_ne_f (by decide)) (zXT_lconst X131.here hx rfl (hb hby d3_240) (zXS_goto X131.here hx rfl (pc0 := 241) (pc' := 252) rfl (hb hby d3_241) (by decide) (by decide) (zXT_lstore X131.here hx rfl (hb hby d3_252) rfl (l' := #[.val (.ref x), sJ cn, sS, sJ hi, sS, sJ lo, sS, sJ ex, sS, sJ (fMag cn), sS, sJ ((fMag cn) * lo), sS, sJ (fUMH (fMag cn) lo), sS, sJ (fP1 cn hi lo), sS, sJ (fP2 cn hi lo), sS, sJ 0, sS, sI 0, sI 0, sJ (fS0 cn lo), sS, sJ (fS1 cn hi lo), sS, sJ (fS2 cn hi lo), sS, sJ 0, sS, sU, sU, sU, sU, sU, sU, sU, sU, sU, sU, sU, sU, sU, sU, sU, sU, sU, sU, sU, sU, sU, sU, sU, sU, sU, sU]) rfl (zXS_iconst X131.here hx rfl (hb hby d3_254) (zXS_iload X131.here hx rfl (hb hby d3_255) rfl (zXT_lload X131.here hx rfl (hb hby d3_257) rfl (zXT_lload X131.here hx rfl (hb hby d3_259) rfl (zXT_lload X131.here hx rfl (hb hby d3_261) rfl (zXT_lload X131.here hx rfl (hb hby d3_263) rfl hr)))))))))))) ?_
    have zz132 : n0 ≤ h106.size := by omega
    refine gStaticN Gl.cl (y := (⟨"com/example/evenkeel/evenkeel/share/FlooredSum", "placed", "(IIJJJJ)J"⟩ : MethodName)) (argsL := [(.int (0 : Int32)), (.int (0 : Int32)), (.long (fS0 cn lo)), (.long (fS1 cn hi lo)), (.long (fS2 cn hi lo)), (.long (0 : Int64))]) (rest := []) (mc := 0) (ms := 0) X131 hx hZ hown (mvT hZ (hw _ (List.mem_of_getElem? (i := 62) rfl))) (mvT hZ (hw _ (List.mem_of_getElem? (i := 63) rfl))) (mvT hZ (hw _ (List.mem_of_getElem? (i := 6) rfl))) (mvT hZ (hw _ (List.mem_of_getElem? (i := 64) rfl))) (by decide) (backOf (W := 0) (pl00 l Z a0 hw [] (fS0 cn lo) (fS1 cn hi lo) (fS2 cn hi lo) (0 : Int64) h106 n0 zz132 ) hZ (hw _ (List.mem_of_getElem? (i := 64) rfl)) (hw _ (List.mem_of_getElem? (i := 6) rfl)) (by decide) (by decide)) rfl (by rw [hml]; rfl) (lenOf pd_5 rfl) rfl (by show 2 * 0 + _ ≤ _; exact Nat.le_of_eq rfl) (hb hby d3_265) rfl e131 (by decide) (by decide) ?_
    intro v132 T132 Lc132 hQ132 X132
    obtain ⟨rfl, Nq132, e132⟩ := hQ132
    have N132 := Fr.app N131 Nq132
    refine Gl.go (fun _ hr => zXT_lstore X132.here hx rfl (hb hby d3_268) rfl (l' := #[.val (.ref x), sJ cn, sS, sJ hi, sS, sJ lo, sS, sJ ex, sS, sJ (fMag cn), sS, sJ ((fMag cn) * lo), sS, sJ (fUMH (fMag cn) lo), sS, sJ (fP1 cn hi lo), sS, sJ (fP2 cn hi lo), sS, sJ 0, sS, sI 0, sI 0, sJ (fS0 cn lo), sS, sJ (fS1 cn hi lo), sS, sJ (fS2 cn hi lo), sS, sJ 0, sS, sJ (fS0 cn lo), sS, sU, sU, sU, sU, sU, sU, sU, sU, sU, sU, sU, sU, sU, sU, sU, sU, sU, sU, sU, sU, sU, sU, sU, sU]) rfl (zXS_iconst X132.here hx rfl (hb hby d3_270) (zXS_iload X132.here hx rfl (hb hby d3_271) rfl (zXT_lload X132.here hx rfl (hb hby d3_273) rfl (zXT_lload X132.here hx rfl (hb hby d3_275) rfl (zXT_lload X132.here hx rfl (hb hby d3_277) rfl (zXT_lload X132.here hx rfl (hb hby d3_279) rfl hr))))))) ?_
    have zz133 : n0 ≤ h106.size := by omega
    refine gStaticN Gl.cl (y := (⟨"com/example/evenkeel/evenkeel/share/FlooredSum", "placed", "(IIJJJJ)J"⟩ : MethodName)) (argsL := [(.int (1 : Int32)), (.int (0 : Int32)), (.long (fS0 cn lo)), (.long (fS1 cn hi lo)), (.long (fS2 cn hi lo)), (.long (0 : Int64))]) (rest := []) (mc := 0) (ms := 0) X132 hx hZ hown (mvT hZ (hw _ (List.mem_of_getElem? (i := 62) rfl))) (mvT hZ (hw _ (List.mem_of_getElem? (i := 63) rfl))) (mvT hZ (hw _ (List.mem_of_getElem? (i := 6) rfl))) (mvT hZ (hw _ (List.mem_of_getElem? (i := 64) rfl))) (by decide) (backOf (W := 0) (pl10 l Z a0 hw [] (fS0 cn lo) (fS1 cn hi lo) (fS2 cn hi lo) (0 : Int64) h106 n0 zz133 ) hZ (hw _ (List.mem_of_getElem? (i := 64) rfl)) (hw _ (List.mem_of_getElem? (i := 6) rfl)) (by decide) (by decide)) rfl (by rw [hml]; rfl) (lenOf pd_5 rfl) rfl (by show 2 * 0 + _ ≤ _; exact Nat.le_of_eq rfl) (hb hby d3_281) rfl e132 (by decide) (by decide) ?_
    intro v133 T133 Lc133 hQ133 X133
    obtain ⟨rfl, Nq133, e133⟩ := hQ133
    have N133 := Fr.app N132 Nq133
    refine Gl.go (fun _ hr => zXT_lstore X133.here hx rfl (hb hby d3_284) rfl (l' := #[.val (.ref x), sJ cn, sS, sJ hi, sS, sJ lo, sS, sJ ex, sS, sJ (fMag cn), sS, sJ ((fMag cn) * lo), sS, sJ (fUMH (fMag cn) lo), sS, sJ (fP1 cn hi lo), sS, sJ (fP2 cn hi lo), sS, sJ 0, sS, sI 0, sI 0, sJ (fS0 cn lo), sS, sJ (fS1 cn hi lo), sS, sJ (fS2 cn hi lo), sS, sJ 0, sS, sJ (fS0 cn lo), sS, sJ (fS1 cn hi lo), sS, sU, sU, sU, sU, sU, sU, sU, sU, sU, sU, sU, sU, sU, sU, sU, sU, sU, sU, sU, sU, sU, sU]) rfl (zXS_iconst X133.here hx rfl (hb hby d3_286) (zXS_iload X133.here hx rfl (hb hby d3_287) rfl (zXT_lload X133.here hx rfl (hb hby d3_289) rfl (zXT_lload X133.here hx rfl (hb hby d3_291) rfl (zXT_lload X133.here hx rfl (hb hby d3_293) rfl (zXT_lload X133.here hx rfl (hb hby d3_295) rfl hr))))))) ?_
    have zz134 : n0 ≤ h106.size := by omega
    refine gStaticN Gl.cl (y := (⟨"com/example/evenkeel/evenkeel/share/FlooredSum", "placed", "(IIJJJJ)J"⟩ : MethodName)) (argsL := [(.int (2 : Int32)), (.int (0 : Int32)), (.long (fS0 cn lo)), (.long (fS1 cn hi lo)), (.long (fS2 cn hi lo)), (.long (0 : Int64))]) (rest := []) (mc := 0) (ms := 0) X133 hx hZ hown (mvT hZ (hw _ (List.mem_of_getElem? (i := 62) rfl))) (mvT hZ (hw _ (List.mem_of_getElem? (i := 63) rfl))) (mvT hZ (hw _ (List.mem_of_getElem? (i := 6) rfl))) (mvT hZ (hw _ (List.mem_of_getElem? (i := 64) rfl))) (by decide) (backOf (W := 0) (pl20 l Z a0 hw [] (fS0 cn lo) (fS1 cn hi lo) (fS2 cn hi lo) (0 : Int64) h106 n0 zz134 ) hZ (hw _ (List.mem_of_getElem? (i := 64) rfl)) (hw _ (List.mem_of_getElem? (i := 6) rfl)) (by decide) (by decide)) rfl (by rw [hml]; rfl) (lenOf pd_5 rfl) rfl (by show 2 * 0 + _ ≤ _; exact Nat.le_of_eq rfl) (hb hby d3_297) rfl e133 (by decide) (by decide) ?_
    intro v134 T134 Lc134 hQ134 X134
    obtain ⟨rfl, Nq134, e134⟩ := hQ134
    have N134 := Fr.app N133 Nq134
    refine Gl.go (fun _ hr => zXT_lstore X134.here hx rfl (hb hby d3_300) rfl (l' := #[.val (.ref x), sJ cn, sS, sJ hi, sS, sJ lo, sS, sJ ex, sS, sJ (fMag cn), sS, sJ ((fMag cn) * lo), sS, sJ (fUMH (fMag cn) lo), sS, sJ (fP1 cn hi lo), sS, sJ (fP2 cn hi lo), sS, sJ 0, sS, sI 0, sI 0, sJ (fS0 cn lo), sS, sJ (fS1 cn hi lo), sS, sJ (fS2 cn hi lo), sS, sJ 0, sS, sJ (fS0 cn lo), sS, sJ (fS1 cn hi lo), sS, sJ (fS2 cn hi lo), sS, sU, sU, sU, sU, sU, sU, sU, sU, sU, sU, sU, sU, sU, sU, sU, sU, sU, sU, sU, sU]) rfl (zXS_iconst X134.here hx rfl (hb hby d3_302) (zXS_iload X134.here hx rfl (hb hby d3_303) rfl (zXT_lload X134.here hx rfl (hb hby d3_305) rfl (zXT_lload X134.here hx rfl (hb hby d3_307) rfl (zXT_lload X134.here hx rfl (hb hby d3_309) rfl (zXT_lload X134.here hx rfl (hb hby d3_311) rfl hr))))))) ?_
    have zz135 : n0 ≤ h106.size := by omega
    refine gStaticN Gl.cl (y := (⟨"com/example/evenkeel/evenkeel/share/FlooredSum", "placed", "(IIJJJJ)J"⟩ : MethodName)) (argsL := [(.int (3 : Int32)), (.int (0 : Int32)), (.long (fS0 cn lo)), (.long (fS1 cn hi lo)), (.long (fS2 cn hi lo)), (.long (0 : Int64))]) (rest := []) (mc := 0) (ms := 0) X134 hx hZ hown (mvT hZ (hw _ (List.mem_of_getElem? (i := 62) rfl))) (mvT hZ (hw _ (List.mem_of_getElem? (i := 63) rfl))) (mvT hZ (hw _ (List.mem_of_getElem? (i := 6) rfl))) (mvT hZ (hw _ (List.mem_of_getElem? (i := 64) rfl))) (by decide) (backOf (W := 0) (pl30 l Z a0 hw [] (fS0 cn lo) (fS1 cn hi lo) (fS2 cn hi lo) (0 : Int64) h106 n0 zz135 ) hZ (hw _ (List.mem_of_getElem? (i := 64) rfl)) (hw _ (List.mem_of_getElem? (i := 6) rfl)) (by decide) (by decide)) rfl (by rw [hml]; rfl) (lenOf pd_5 rfl) rfl (by show 2 * 0 + _ ≤ _; exact Nat.le_of_eq rfl) (hb hby d3_313) rfl e134 (by decide) (by decide) ?_
    intro v135 T135 Lc135 hQ135 X135
    obtain ⟨rfl, Nq135, e135⟩ := hQ135
    have N135 := Fr.app N134 Nq135
    refine Gl.go (fun _ hr => zXT_lstore X135.here hx rfl (hb hby d3_316) rfl (l' := #[.val (.ref x), sJ cn, sS, sJ hi, sS, sJ lo, sS, sJ ex, sS, sJ (fMag cn), sS, sJ ((fMag cn) * lo), sS, sJ (fUMH (fMag cn) lo), sS, sJ (fP1 cn hi lo), sS, sJ (fP2 cn hi lo), sS, sJ 0, sS, sI 0, sI 0, sJ (fS0 cn lo), sS, sJ (fS1 cn hi lo), sS, sJ (fS2 cn hi lo), sS, sJ 0, sS, sJ (fS0 cn lo), sS, sJ (fS1 cn hi lo), sS, sJ (fS2 cn hi lo), sS, sJ 0, sS, sU, sU, sU, sU, sU, sU, sU, sU, sU, sU, sU, sU, sU, sU, sU, sU, sU, sU]) rfl (zXT_lloadN X135.here hx rfl (hb hby d3_318) rfl (zXT_lconst X135.here hx rfl (hb hby d3_319) (zXT_lcmp X135.here hx rfl (hb hby d3_320) rfl hr)))) ?_
    by_cases hc136 : cn < (0 : Int64)
    · refine Gl.go (fun _ hr => zXS_ifNo X135.here hx rfl (hb hby d3_321) rfl (XT.ll_ge_f hc136) (zXT_lload X135.here hx rfl (hb hby d3_324) rfl hr)) ?_
      refine Gl.go (X135.ldc2Long hx hown (mvT hZ (hw _ (List.mem_of_getElem? (i := 67) rfl))) rfl (hb hby d3_326)) ?_
      refine Gl.go (fun _ hr => zXT_lxor X135.here hx rfl (hb hby d3_329) rfl (zXT_lconst X135.here hx rfl (hb hby d3_330) (zXT_ladd X135.here hx rfl (hb hby d3_331) rfl hr))) ?_
      show Gl p.tables e below _ (T135.setTop (mkF m 332 #[.val (.ref x), sJ cn, sS, sJ hi, sS, sJ lo, sS, sJ ex, sS, sJ (fMag cn), sS, sJ ((fMag cn) * lo), sS, sJ (fUMH (fMag cn) lo), sS, sJ (fP1 cn hi lo), sS, sJ (fP2 cn hi lo), sS, sJ 0, sS, sI 0, sI 0, sJ (fS0 cn lo), sS, sJ (fS1 cn hi lo), sS, sJ (fS2 cn hi lo), sS, sJ 0, sS, sJ (fS0 cn lo), sS, sJ (fS1 cn hi lo), sS, sJ (fS2 cn hi lo), sS, sJ 0, sS, sU, sU, sU, sU, sU, sU, sU, sU, sU, sU, sU, sU, sU, sU, sU, sU, sU, sU] [(.long (fN0 cn lo))]))
      refine Gl.go (fun _ hr => zXT_lstore X135.here hx rfl (hb hby d3_332) rfl (l' := #[.val (.ref x), sJ cn, sS, sJ hi, sS, sJ lo, sS, sJ ex, sS, sJ (fMag cn), sS, sJ ((fMag cn) * lo), sS, sJ (fUMH (fMag cn) lo), sS, sJ (fP1 cn hi lo), sS, sJ (fP2 cn hi lo), sS, sJ 0, sS, sI 0, sI 0, sJ (fS0 cn lo), sS, sJ (fS1 cn hi lo), sS, sJ (fS2 cn hi lo), sS, sJ 0, sS, sJ (fN0 cn lo), sS, sJ (fS1 cn hi lo), sS, sJ (fS2 cn hi lo), sS, sJ 0, sS, sU, sU, sU, sU, sU, sU, sU, sU, sU, sU, sU, sU, sU, sU, sU, sU, sU, sU]) rfl (zXT_lload X135.here hx rfl (hb hby d3_334) rfl (zXT_lconst X135.here hx rfl (hb hby d3_336) (zXT_lcmp X135.here hx rfl (hb hby d3_337) rfl hr)))) ?_
      obtain ⟨T137, ⟨lc137, N137, X137, e137⟩, st137⟩ : Sg (fun U => ∃ lc, Fr n0 lc ∧ Stand p l e ({ frames := 2, cells := 0, slots := 0, locals := 50 } : Room) s m #[(.ref x), (.long cn), (.long hi), (.long lo), (.long ex)] below meth c U lc 0 0 ∧ U.heap = h106) (mkF m 346 #[.val (.ref x), sJ cn, sS, sJ hi, sS, sJ lo, sS, sJ ex, sS, sJ (fMag cn), sS, sJ ((fMag cn) * lo), sS, sJ (fUMH (fMag cn) lo), sS, sJ (fP1 cn hi lo), sS, sJ (fP2 cn hi lo), sS, sJ 0, sS, sI 0, sI 0, sJ (fS0 cn lo), sS, sJ (fS1 cn hi lo), sS, sJ (fS2 cn hi lo), sS, sJ 0, sS, sJ (fN0 cn lo), sS, sJ (fS1 cn hi lo), sS, sJ (fS2 cn hi lo), sS, sJ 0, sS, sU, sU, sU, sU, sU, sU, sU, sU, sU, sU, sU, sU, sU, sU, sU, sU, sU, sU] [(.long (fK0 cn lo))]) p.tables e below (T135.setTop (mkF m 338 #[.val (.ref x), sJ cn, sS, sJ hi, sS, sJ lo, sS, sJ ex, sS, sJ (fMag cn), sS, sJ ((fMag cn) * lo), sS, sJ (fUMH (fMag cn) lo), sS, sJ (fP1 cn hi lo), sS, sJ (fP2 cn hi lo), sS, sJ 0, sS, sI 0, sI 0, sJ (fS0 cn lo), sS, sJ (fS1 cn hi lo), sS, sJ (fS2 cn hi lo), sS, sJ 0, sS, sJ (fN0 cn lo), sS, sJ (fS1 cn hi lo), sS, sJ (fS2 cn hi lo), sS, sJ 0, sS, sU, sU, sU, sU, sU, sU, sU, sU, sU, sU, sU, sU, sU, sU, sU, sU, sU, sU] [(.int (XT.cmpL (fN0 cn lo) (0 : Int64)))])) := by
        by_cases hc138 : (fN0 cn lo) = (0 : Int64)
        · refine Sg.go (fun _ hr => zXS_ifNo X135.here hx rfl (hb hby d3_338) rfl (XT.ll_ne_f hc138) (zXT_lconst X135.here hx rfl (hb hby d3_341) (zXS_goto X135.here hx rfl (pc0 := 342) (pc' := 346) rfl (hb hby d3_342) (by decide) (by decide) hr))) ?_
          show Sg _ _ p.tables e below (T135.setTop (mkF m 346 #[.val (.ref x), sJ cn, sS, sJ hi, sS, sJ lo, sS, sJ ex, sS, sJ (fMag cn), sS, sJ ((fMag cn) * lo), sS, sJ (fUMH (fMag cn) lo), sS, sJ (fP1 cn hi lo), sS, sJ (fP2 cn hi lo), sS, sJ 0, sS, sI 0, sI 0, sJ (fS0 cn lo), sS, sJ (fS1 cn hi lo), sS, sJ (fS2 cn hi lo), sS, sJ 0, sS, sJ (fN0 cn lo), sS, sJ (fS1 cn hi lo), sS, sJ (fS2 cn hi lo), sS, sJ 0, sS, sU, sU, sU, sU, sU, sU, sU, sU, sU, sU, sU, sU, sU, sU, sU, sU, sU, sU] [(.long (1 : Int64))]))
          exact ⟨T135, ⟨_, N135, X135, e135⟩, fun _ hr => by rw [fK0, if_pos hc138] at hr; exact hr⟩
        · refine Sg.go (fun _ hr => zXS_ifYes X135.here hx rfl (pc0 := 338) (pc' := 345) rfl (hb hby d3_338) rfl (XT.ll_ne_t hc138) (by decide) (by decide) (zXT_lconst X135.here hx rfl (hb hby d3_345) hr)) ?_
          show Sg _ _ p.tables e below (T135.setTop (mkF m 346 #[.val (.ref x), sJ cn, sS, sJ hi, sS, sJ lo, sS, sJ ex, sS, sJ (fMag cn), sS, sJ ((fMag cn) * lo), sS, sJ (fUMH (fMag cn) lo), sS, sJ (fP1 cn hi lo), sS, sJ (fP2 cn hi lo), sS, sJ 0, sS, sI 0, sI 0, sJ (fS0 cn lo), sS, sJ (fS1 cn hi lo), sS, sJ (fS2 cn hi lo), sS, sJ 0, sS, sJ (fN0 cn lo), sS, sJ (fS1 cn hi lo), sS, sJ (fS2 cn hi lo), sS, sJ 0, sS, sU, sU, sU, sU, sU, sU, sU, sU, sU, sU, sU, sU, sU, sU, sU, sU, sU, sU] [(.long (0 : Int64))]))
          exact ⟨T135, ⟨_, N135, X135, e135⟩, fun _ hr => by rw [fK0, if_neg hc138] at hr; exact hr⟩
      refine Gl.go st137 ?_
      show Gl p.tables e below _ (T137.setTop (mkF m 346 #[.val (.ref x), sJ cn, sS, sJ hi, sS, sJ lo, sS, sJ ex, sS, sJ (fMag cn), sS, sJ ((fMag cn) * lo), sS, sJ (fUMH (fMag cn) lo), sS, sJ (fP1 cn hi lo), sS, sJ (fP2 cn hi lo), sS, sJ 0, sS, sI 0, sI 0, sJ (fS0 cn lo), sS, sJ (fS1 cn hi lo), sS, sJ (fS2 cn hi lo), sS, sJ 0, sS, sJ (fN0 cn lo), sS, sJ (fS1 cn hi lo), sS, sJ (fS2 cn hi lo), sS, sJ 0, sS, sU, sU, sU, sU, sU, sU, sU, sU, sU, sU, sU, sU, sU, sU, sU, sU, sU, sU] [(.long (fK0 cn lo))]))
      refine Gl.go (fun _ hr => zXT_lstore X137.here hx rfl (hb hby d3_346) rfl (l' := #[.val (.ref x), sJ cn, sS, sJ hi, sS, sJ lo, sS, sJ ex, sS, sJ (fMag cn), sS, sJ ((fMag cn) * lo), sS, sJ (fUMH (fMag cn) lo), sS, sJ (fP1 cn hi lo), sS, sJ (fP2 cn hi lo), sS, sJ 0, sS, sI 0, sI 0, sJ (fS0 cn lo), sS, sJ (fS1 cn hi lo), sS, sJ (fS2 cn hi lo), sS, sJ 0, sS, sJ (fN0 cn lo), sS, sJ (fS1 cn hi lo), sS, sJ (fS2 cn hi lo), sS, sJ 0, sS, sJ (fK0 cn lo), sS, sU, sU, sU, sU, sU, sU, sU, sU, sU, sU, sU, sU, sU, sU, sU, sU]) rfl (zXT_lload X137.here hx rfl (hb hby d3_348) rfl hr)) ?_
      refine Gl.go (X137.ldc2Long hx hown (mvT hZ (hw _ (List.mem_of_getElem? (i := 67) rfl))) rfl (hb hby d3_350)) ?_
      refine Gl.go (fun _ hr => zXT_lxor X137.here hx rfl (hb hby d3_353) rfl (zXT_lload X137.here hx rfl (hb hby d3_354) rfl (zXT_ladd X137.here hx rfl (hb hby d3_356) rfl hr))) ?_
      show Gl p.tables e below _ (T137.setTop (mkF m 357 #[.val (.ref x), sJ cn, sS, sJ hi, sS, sJ lo, sS, sJ ex, sS, sJ (fMag cn), sS, sJ ((fMag cn) * lo), sS, sJ (fUMH (fMag cn) lo), sS, sJ (fP1 cn hi lo), sS, sJ (fP2 cn hi lo), sS, sJ 0, sS, sI 0, sI 0, sJ (fS0 cn lo), sS, sJ (fS1 cn hi lo), sS, sJ (fS2 cn hi lo), sS, sJ 0, sS, sJ (fN0 cn lo), sS, sJ (fS1 cn hi lo), sS, sJ (fS2 cn hi lo), sS, sJ 0, sS, sJ (fK0 cn lo), sS, sU, sU, sU, sU, sU, sU, sU, sU, sU, sU, sU, sU, sU, sU, sU, sU] [(.long (fN1 cn hi lo))]))
      refine Gl.go (fun _ hr => zXT_lstore X137.here hx rfl (hb hby d3_357) rfl (l' := #[.val (.ref x), sJ cn, sS, sJ hi, sS, sJ lo, sS, sJ ex, sS, sJ (fMag cn), sS, sJ ((fMag cn) * lo), sS, sJ (fUMH (fMag cn) lo), sS, sJ (fP1 cn hi lo), sS, sJ (fP2 cn hi lo), sS, sJ 0, sS, sI 0, sI 0, sJ (fS0 cn lo), sS, sJ (fS1 cn hi lo), sS, sJ (fS2 cn hi lo), sS, sJ 0, sS, sJ (fN0 cn lo), sS, sJ (fN1 cn hi lo), sS, sJ (fS2 cn hi lo), sS, sJ 0, sS, sJ (fK0 cn lo), sS, sU, sU, sU, sU, sU, sU, sU, sU, sU, sU, sU, sU, sU, sU, sU, sU]) rfl (zXT_lload X137.here hx rfl (hb hby d3_359) rfl (zXT_lconst X137.here hx rfl (hb hby d3_361) (zXT_lcmp X137.here hx rfl (hb hby d3_362) rfl hr)))) ?_
      obtain ⟨T139, ⟨lc139, N139, X139, e139⟩, st139⟩ : Sg (fun U => ∃ lc, Fr n0 lc ∧ Stand p l e ({ frames := 2, cells := 0, slots := 0, locals := 50 } : Room) s m #[(.ref x), (.long cn), (.long hi), (.long lo), (.long ex)] below meth c U lc 0 0 ∧ U.heap = h106) (mkF m 378 #[.val (.ref x), sJ cn, sS, sJ hi, sS, sJ lo, sS, sJ ex, sS, sJ (fMag cn), sS, sJ ((fMag cn) * lo), sS, sJ (fUMH (fMag cn) lo), sS, sJ (fP1 cn hi lo), sS, sJ (fP2 cn hi lo), sS, sJ 0, sS, sI 0, sI 0, sJ (fS0 cn lo), sS, sJ (fS1 cn hi lo), sS, sJ (fS2 cn hi lo), sS, sJ 0, sS, sJ (fN0 cn lo), sS, sJ (fN1 cn hi lo), sS, sJ (fS2 cn hi lo), sS, sJ 0, sS, sJ (fK0 cn lo), sS, sU, sU, sU, sU, sU, sU, sU, sU, sU, sU, sU, sU, sU, sU, sU, sU] [(.long (fK1 cn hi lo))]) p.tables e below (T137.setTop (mkF m 363 #[.val (.ref x), sJ cn, sS, sJ hi, sS, sJ lo, sS, sJ ex, sS, sJ (fMag cn), sS, sJ ((fMag cn) * lo), sS, sJ (fUMH (fMag cn) lo), sS, sJ (fP1 cn hi lo), sS, sJ (fP2 cn hi lo), sS, sJ 0, sS, sI 0, sI 0, sJ (fS0 cn lo), sS, sJ (fS1 cn hi lo), sS, sJ (fS2 cn hi lo), sS, sJ 0, sS, sJ (fN0 cn lo), sS, sJ (fN1 cn hi lo), sS, sJ (fS2 cn hi lo), sS, sJ 0, sS, sJ (fK0 cn lo), sS, sU, sU, sU, sU, sU, sU, sU, sU, sU, sU, sU, sU, sU, sU, sU, sU] [(.int (XT.cmpL (fK0 cn lo) (1 : Int64)))])) := by
        by_cases hc140 : (fK0 cn lo) = (1 : Int64)
        · refine Sg.go (fun _ hr => zXS_ifNo X137.here hx rfl (hb hby d3_363) rfl (XT.ll_ne_f hc140) (zXT_lload X137.here hx rfl (hb hby d3_366) rfl (zXT_lconst X137.here hx rfl (hb hby d3_368) (zXT_lcmp X137.here hx rfl (hb hby d3_369) rfl hr)))) ?_
          by_cases hc141 : (fN1 cn hi lo) = (0 : Int64)
          · refine Sg.go (fun _ hr => zXS_ifNo X137.here hx rfl (hb hby d3_370) rfl (XT.ll_ne_f hc141) (zXT_lconst X137.here hx rfl (hb hby d3_373) (zXS_goto X137.here hx rfl (pc0 := 374) (pc' := 378) rfl (hb hby d3_374) (by decide) (by decide) hr))) ?_
            show Sg _ _ p.tables e below (T137.setTop (mkF m 378 #[.val (.ref x), sJ cn, sS, sJ hi, sS, sJ lo, sS, sJ ex, sS, sJ (fMag cn), sS, sJ ((fMag cn) * lo), sS, sJ (fUMH (fMag cn) lo), sS, sJ (fP1 cn hi lo), sS, sJ (fP2 cn hi lo), sS, sJ 0, sS, sI 0, sI 0, sJ (fS0 cn lo), sS, sJ (fS1 cn hi lo), sS, sJ (fS2 cn hi lo), sS, sJ 0, sS, sJ (fN0 cn lo), sS, sJ (fN1 cn hi lo), sS, sJ (fS2 cn hi lo), sS, sJ 0, sS, sJ (fK0 cn lo), sS, sU, sU, sU, sU, sU, sU, sU, sU, sU, sU, sU, sU, sU, sU, sU, sU] [(.long (1 : Int64))]))
            exact ⟨T137, ⟨_, N137, X137, e137⟩, fun _ hr => by rw [fK1, if_pos ⟨hc140, hc141⟩] at hr; exact hr⟩
          · refine Sg.go (fun _ hr => zXS_ifYes X137.here hx rfl (pc0 := 370) (pc' := 377) rfl (hb hby d3_370) rfl (XT.ll_ne_t hc141) (by decide) (by decide) (zXT_lconst X137.here hx rfl (hb hby d3_377) hr)) ?_
            show Sg _ _ p.tables e below (T137.setTop (mkF m 378 #[.val (.ref x), sJ cn, sS, sJ hi, sS, sJ lo, sS, sJ ex, sS, sJ (fMag cn), sS, sJ ((fMag cn) * lo), sS, sJ (fUMH (fMag cn) lo), sS, sJ (fP1 cn hi lo), sS, sJ (fP2 cn hi lo), sS, sJ 0, sS, sI 0, sI 0, sJ (fS0 cn lo), sS, sJ (fS1 cn hi lo), sS, sJ (fS2 cn hi lo), sS, sJ 0, sS, sJ (fN0 cn lo), sS, sJ (fN1 cn hi lo), sS, sJ (fS2 cn hi lo), sS, sJ 0, sS, sJ (fK0 cn lo), sS, sU, sU, sU, sU, sU, sU, sU, sU, sU, sU, sU, sU, sU, sU, sU, sU] [(.long (0 : Int64))]))
            exact ⟨T137, ⟨_, N137, X137, e137⟩, fun _ hr => by rw [fK1, if_neg (fun q => hc141 q.2)] at hr; exact hr⟩
        · refine Sg.go (fun _ hr => zXS_ifYes X137.here hx rfl (pc0 := 363) (pc' := 377) rfl (hb hby d3_363) rfl (XT.ll_ne_t hc140) (by decide) (by decide) (zXT_lconst X137.here hx rfl (hb hby d3_377) hr)) ?_
          show Sg _ _ p.tables e below (T137.setTop (mkF m 378 #[.val (.ref x), sJ cn, sS, sJ hi, sS, sJ lo, sS, sJ ex, sS, sJ (fMag cn), sS, sJ ((fMag cn) * lo), sS, sJ (fUMH (fMag cn) lo), sS, sJ (fP1 cn hi lo), sS, sJ (fP2 cn hi lo), sS, sJ 0, sS, sI 0, sI 0, sJ (fS0 cn lo), sS, sJ (fS1 cn hi lo), sS, sJ (fS2 cn hi lo), sS, sJ 0, sS, sJ (fN0 cn lo), sS, sJ (fN1 cn hi lo), sS, sJ (fS2 cn hi lo), sS, sJ 0, sS, sJ (fK0 cn lo), sS, sU, sU, sU, sU, sU, sU, sU, sU, sU, sU, sU, sU, sU, sU, sU, sU] [(.long (0 : Int64))]))
          exact ⟨T137, ⟨_, N137, X137, e137⟩, fun _ hr => by rw [fK1, if_neg (fun q => hc140 q.1)] at hr; exact hr⟩
      refine Gl.go st139 ?_
      show Gl p.tables e below _ (T139.setTop (mkF m 378 #[.val (.ref x), sJ cn, sS, sJ hi, sS, sJ lo, sS, sJ ex, sS, sJ (fMag cn), sS, sJ ((fMag cn) * lo), sS, sJ (fUMH (fMag cn) lo), sS, sJ (fP1 cn hi lo), sS, sJ (fP2 cn hi lo), sS, sJ 0, sS, sI 0, sI 0, sJ (fS0 cn lo), sS, sJ (fS1 cn hi lo), sS, sJ (fS2 cn hi lo), sS, sJ 0, sS, sJ (fN0 cn lo), sS, sJ (fN1 cn hi lo), sS, sJ (fS2 cn hi lo), sS, sJ 0, sS, sJ (fK0 cn lo), sS, sU, sU, sU, sU, sU, sU, sU, sU, sU, sU, sU, sU, sU, sU, sU, sU] [(.long (fK1 cn hi lo))]))
      refine Gl.go (fun _ hr => zXT_lstore X139.here hx rfl (hb hby d3_378) rfl (l' := #[.val (.ref x), sJ cn, sS, sJ hi, sS, sJ lo, sS, sJ ex, sS, sJ (fMag cn), sS, sJ ((fMag cn) * lo), sS, sJ (fUMH (fMag cn) lo), sS, sJ (fP1 cn hi lo), sS, sJ (fP2 cn hi lo), sS, sJ 0, sS, sI 0, sI 0, sJ (fS0 cn lo), sS, sJ (fS1 cn hi lo), sS, sJ (fS2 cn hi lo), sS, sJ 0, sS, sJ (fN0 cn lo), sS, sJ (fN1 cn hi lo), sS, sJ (fS2 cn hi lo), sS, sJ 0, sS, sJ (fK0 cn lo), sS, sJ (fK1 cn hi lo), sS, sU, sU, sU, sU, sU, sU, sU, sU, sU, sU, sU, sU, sU, sU]) rfl (zXT_lload X139.here hx rfl (hb hby d3_380) rfl hr)) ?_
      refine Gl.go (X139.ldc2Long hx hown (mvT hZ (hw _ (List.mem_of_getElem? (i := 67) rfl))) rfl (hb hby d3_382)) ?_
      refine Gl.go (fun _ hr => zXT_lxor X139.here hx rfl (hb hby d3_385) rfl (zXT_lload X139.here hx rfl (hb hby d3_386) rfl (zXT_ladd X139.here hx rfl (hb hby d3_388) rfl hr))) ?_
      show Gl p.tables e below _ (T139.setTop (mkF m 389 #[.val (.ref x), sJ cn, sS, sJ hi, sS, sJ lo, sS, sJ ex, sS, sJ (fMag cn), sS, sJ ((fMag cn) * lo), sS, sJ (fUMH (fMag cn) lo), sS, sJ (fP1 cn hi lo), sS, sJ (fP2 cn hi lo), sS, sJ 0, sS, sI 0, sI 0, sJ (fS0 cn lo), sS, sJ (fS1 cn hi lo), sS, sJ (fS2 cn hi lo), sS, sJ 0, sS, sJ (fN0 cn lo), sS, sJ (fN1 cn hi lo), sS, sJ (fS2 cn hi lo), sS, sJ 0, sS, sJ (fK0 cn lo), sS, sJ (fK1 cn hi lo), sS, sU, sU, sU, sU, sU, sU, sU, sU, sU, sU, sU, sU, sU, sU] [(.long (fN2 cn hi lo))]))
      refine Gl.go (fun _ hr => zXT_lstore X139.here hx rfl (hb hby d3_389) rfl (l' := #[.val (.ref x), sJ cn, sS, sJ hi, sS, sJ lo, sS, sJ ex, sS, sJ (fMag cn), sS, sJ ((fMag cn) * lo), sS, sJ (fUMH (fMag cn) lo), sS, sJ (fP1 cn hi lo), sS, sJ (fP2 cn hi lo), sS, sJ 0, sS, sI 0, sI 0, sJ (fS0 cn lo), sS, sJ (fS1 cn hi lo), sS, sJ (fS2 cn hi lo), sS, sJ 0, sS, sJ (fN0 cn lo), sS, sJ (fN1 cn hi lo), sS, sJ (fN2 cn hi lo), sS, sJ 0, sS, sJ (fK0 cn lo), sS, sJ (fK1 cn hi lo), sS, sU, sU, sU, sU, sU, sU, sU, sU, sU, sU, sU, sU, sU, sU]) rfl (zXT_lload X139.here hx rfl (hb hby d3_391) rfl (zXT_lconst X139.here hx rfl (hb hby d3_393) (zXT_lcmp X139.here hx rfl (hb hby d3_394) rfl hr)))) ?_
      obtain ⟨T142, ⟨lc142, N142, X142, e142⟩, st142⟩ : Sg (fun U => ∃ lc, Fr n0 lc ∧ Stand p l e ({ frames := 2, cells := 0, slots := 0, locals := 50 } : Room) s m #[(.ref x), (.long cn), (.long hi), (.long lo), (.long ex)] below meth c U lc 0 0 ∧ U.heap = h106) (mkF m 410 #[.val (.ref x), sJ cn, sS, sJ hi, sS, sJ lo, sS, sJ ex, sS, sJ (fMag cn), sS, sJ ((fMag cn) * lo), sS, sJ (fUMH (fMag cn) lo), sS, sJ (fP1 cn hi lo), sS, sJ (fP2 cn hi lo), sS, sJ 0, sS, sI 0, sI 0, sJ (fS0 cn lo), sS, sJ (fS1 cn hi lo), sS, sJ (fS2 cn hi lo), sS, sJ 0, sS, sJ (fN0 cn lo), sS, sJ (fN1 cn hi lo), sS, sJ (fN2 cn hi lo), sS, sJ 0, sS, sJ (fK0 cn lo), sS, sJ (fK1 cn hi lo), sS, sU, sU, sU, sU, sU, sU, sU, sU, sU, sU, sU, sU, sU, sU] [(.long (fK2 cn hi lo))]) p.tables e below (T139.setTop (mkF m 395 #[.val (.ref x), sJ cn, sS, sJ hi, sS, sJ lo, sS, sJ ex, sS, sJ (fMag cn), sS, sJ ((fMag cn) * lo), sS, sJ (fUMH (fMag cn) lo), sS, sJ (fP1 cn hi lo), sS, sJ (fP2 cn hi lo), sS, sJ 0, sS, sI 0, sI 0, sJ (fS0 cn lo), sS, sJ (fS1 cn hi lo), sS, sJ (fS2 cn hi lo), sS, sJ 0, sS, sJ (fN0 cn lo), sS, sJ (fN1 cn hi lo), sS, sJ (fN2 cn hi lo), sS, sJ 0, sS, sJ (fK0 cn lo), sS, sJ (fK1 cn hi lo), sS, sU, sU, sU, sU, sU, sU, sU, sU, sU, sU, sU, sU, sU, sU] [(.int (XT.cmpL (fK1 cn hi lo) (1 : Int64)))])) := by
        by_cases hc143 : (fK1 cn hi lo) = (1 : Int64)
        · refine Sg.go (fun _ hr => zXS_ifNo X139.here hx rfl (hb hby d3_395) rfl (XT.ll_ne_f hc143) (zXT_lload X139.here hx rfl (hb hby d3_398) rfl (zXT_lconst X139.here hx rfl (hb hby d3_400) (zXT_lcmp X139.here hx rfl (hb hby d3_401) rfl hr)))) ?_
          by_cases hc144 : (fN2 cn hi lo) = (0 : Int64)
          · refine Sg.go (fun _ hr => zXS_ifNo X139.here hx rfl (hb hby d3_402) rfl (XT.ll_ne_f hc144) (zXT_lconst X139.here hx rfl (hb hby d3_405) (zXS_goto X139.here hx rfl (pc0 := 406) (pc' := 410) rfl (hb hby d3_406) (by decide) (by decide) hr))) ?_
            show Sg _ _ p.tables e below (T139.setTop (mkF m 410 #[.val (.ref x), sJ cn, sS, sJ hi, sS, sJ lo, sS, sJ ex, sS, sJ (fMag cn), sS, sJ ((fMag cn) * lo), sS, sJ (fUMH (fMag cn) lo), sS, sJ (fP1 cn hi lo), sS, sJ (fP2 cn hi lo), sS, sJ 0, sS, sI 0, sI 0, sJ (fS0 cn lo), sS, sJ (fS1 cn hi lo), sS, sJ (fS2 cn hi lo), sS, sJ 0, sS, sJ (fN0 cn lo), sS, sJ (fN1 cn hi lo), sS, sJ (fN2 cn hi lo), sS, sJ 0, sS, sJ (fK0 cn lo), sS, sJ (fK1 cn hi lo), sS, sU, sU, sU, sU, sU, sU, sU, sU, sU, sU, sU, sU, sU, sU] [(.long (1 : Int64))]))
            exact ⟨T139, ⟨_, N139, X139, e139⟩, fun _ hr => by rw [fK2, if_pos ⟨hc143, hc144⟩] at hr; exact hr⟩
          · refine Sg.go (fun _ hr => zXS_ifYes X139.here hx rfl (pc0 := 402) (pc' := 409) rfl (hb hby d3_402) rfl (XT.ll_ne_t hc144) (by decide) (by decide) (zXT_lconst X139.here hx rfl (hb hby d3_409) hr)) ?_
            show Sg _ _ p.tables e below (T139.setTop (mkF m 410 #[.val (.ref x), sJ cn, sS, sJ hi, sS, sJ lo, sS, sJ ex, sS, sJ (fMag cn), sS, sJ ((fMag cn) * lo), sS, sJ (fUMH (fMag cn) lo), sS, sJ (fP1 cn hi lo), sS, sJ (fP2 cn hi lo), sS, sJ 0, sS, sI 0, sI 0, sJ (fS0 cn lo), sS, sJ (fS1 cn hi lo), sS, sJ (fS2 cn hi lo), sS, sJ 0, sS, sJ (fN0 cn lo), sS, sJ (fN1 cn hi lo), sS, sJ (fN2 cn hi lo), sS, sJ 0, sS, sJ (fK0 cn lo), sS, sJ (fK1 cn hi lo), sS, sU, sU, sU, sU, sU, sU, sU, sU, sU, sU, sU, sU, sU, sU] [(.long (0 : Int64))]))
            exact ⟨T139, ⟨_, N139, X139, e139⟩, fun _ hr => by rw [fK2, if_neg (fun q => hc144 q.2)] at hr; exact hr⟩
        · refine Sg.go (fun _ hr => zXS_ifYes X139.here hx rfl (pc0 := 395) (pc' := 409) rfl (hb hby d3_395) rfl (XT.ll_ne_t hc143) (by decide) (by decide) (zXT_lconst X139.here hx rfl (hb hby d3_409) hr)) ?_
          show Sg _ _ p.tables e below (T139.setTop (mkF m 410 #[.val (.ref x), sJ cn, sS, sJ hi, sS, sJ lo, sS, sJ ex, sS, sJ (fMag cn), sS, sJ ((fMag cn) * lo), sS, sJ (fUMH (fMag cn) lo), sS, sJ (fP1 cn hi lo), sS, sJ (fP2 cn hi lo), sS, sJ 0, sS, sI 0, sI 0, sJ (fS0 cn lo), sS, sJ (fS1 cn hi lo), sS, sJ (fS2 cn hi lo), sS, sJ 0, sS, sJ (fN0 cn lo), sS, sJ (fN1 cn hi lo), sS, sJ (fN2 cn hi lo), sS, sJ 0, sS, sJ (fK0 cn lo), sS, sJ (fK1 cn hi lo), sS, sU, sU, sU, sU, sU, sU, sU, sU, sU, sU, sU, sU, sU, sU] [(.long (0 : Int64))]))
          exact ⟨T139, ⟨_, N139, X139, e139⟩, fun _ hr => by rw [fK2, if_neg (fun q => hc143 q.1)] at hr; exact hr⟩
      refine Gl.go st142 ?_
      show Gl p.tables e below _ (T142.setTop (mkF m 410 #[.val (.ref x), sJ cn, sS, sJ hi, sS, sJ lo, sS, sJ ex, sS, sJ (fMag cn), sS, sJ ((fMag cn) * lo), sS, sJ (fUMH (fMag cn) lo), sS, sJ (fP1 cn hi lo), sS, sJ (fP2 cn hi lo), sS, sJ 0, sS, sI 0, sI 0, sJ (fS0 cn lo), sS, sJ (fS1 cn hi lo), sS, sJ (fS2 cn hi lo), sS, sJ 0, sS, sJ (fN0 cn lo), sS, sJ (fN1 cn hi lo), sS, sJ (fN2 cn hi lo), sS, sJ 0, sS, sJ (fK0 cn lo), sS, sJ (fK1 cn hi lo), sS, sU, sU, sU, sU, sU, sU, sU, sU, sU, sU, sU, sU, sU, sU] [(.long (fK2 cn hi lo))]))
      refine Gl.go (fun _ hr => zXT_lstore X142.here hx rfl (hb hby d3_410) rfl (l' := #[.val (.ref x), sJ cn, sS, sJ hi, sS, sJ lo, sS, sJ ex, sS, sJ (fMag cn), sS, sJ ((fMag cn) * lo), sS, sJ (fUMH (fMag cn) lo), sS, sJ (fP1 cn hi lo), sS, sJ (fP2 cn hi lo), sS, sJ 0, sS, sI 0, sI 0, sJ (fS0 cn lo), sS, sJ (fS1 cn hi lo), sS, sJ (fS2 cn hi lo), sS, sJ 0, sS, sJ (fN0 cn lo), sS, sJ (fN1 cn hi lo), sS, sJ (fN2 cn hi lo), sS, sJ 0, sS, sJ (fK0 cn lo), sS, sJ (fK1 cn hi lo), sS, sJ (fK2 cn hi lo), sS, sU, sU, sU, sU, sU, sU, sU, sU, sU, sU, sU, sU]) rfl (zXT_lload X142.here hx rfl (hb hby d3_412) rfl hr)) ?_
      refine Gl.go (X142.ldc2Long hx hown (mvT hZ (hw _ (List.mem_of_getElem? (i := 67) rfl))) rfl (hb hby d3_414)) ?_
      refine Gl.go (fun _ hr => zXT_lxor X142.here hx rfl (hb hby d3_417) rfl (zXT_lload X142.here hx rfl (hb hby d3_418) rfl (zXT_ladd X142.here hx rfl (hb hby d3_420) rfl hr))) ?_
      show Gl p.tables e below _ (T142.setTop (mkF m 421 #[.val (.ref x), sJ cn, sS, sJ hi, sS, sJ lo, sS, sJ ex, sS, sJ (fMag cn), sS, sJ ((fMag cn) * lo), sS, sJ (fUMH (fMag cn) lo), sS, sJ (fP1 cn hi lo), sS, sJ (fP2 cn hi lo), sS, sJ 0, sS, sI 0, sI 0, sJ (fS0 cn lo), sS, sJ (fS1 cn hi lo), sS, sJ (fS2 cn hi lo), sS, sJ 0, sS, sJ (fN0 cn lo), sS, sJ (fN1 cn hi lo), sS, sJ (fN2 cn hi lo), sS, sJ 0, sS, sJ (fK0 cn lo), sS, sJ (fK1 cn hi lo), sS, sJ (fK2 cn hi lo), sS, sU, sU, sU, sU, sU, sU, sU, sU, sU, sU, sU, sU] [(.long (fN3 cn hi lo))]))
      refine Gl.go (fun _ hr => zXT_lstore X142.here hx rfl (hb hby d3_421) rfl (l' := #[.val (.ref x), sJ cn, sS, sJ hi, sS, sJ lo, sS, sJ ex, sS, sJ (fMag cn), sS, sJ ((fMag cn) * lo), sS, sJ (fUMH (fMag cn) lo), sS, sJ (fP1 cn hi lo), sS, sJ (fP2 cn hi lo), sS, sJ 0, sS, sI 0, sI 0, sJ (fS0 cn lo), sS, sJ (fS1 cn hi lo), sS, sJ (fS2 cn hi lo), sS, sJ 0, sS, sJ (fN0 cn lo), sS, sJ (fN1 cn hi lo), sS, sJ (fN2 cn hi lo), sS, sJ (fN3 cn hi lo), sS, sJ (fK0 cn lo), sS, sJ (fK1 cn hi lo), sS, sJ (fK2 cn hi lo), sS, sU, sU, sU, sU, sU, sU, sU, sU, sU, sU, sU, sU]) rfl (zXS_aloadN X142.here hx rfl (hb hby d3_423) rfl rfl hr)) ?_
      have Fc145 := (q3.other W106 (Or.inr (slot_ne (Or.inl (hw _ (List.mem_of_getElem? (i := 28) rfl))) (Or.inl (hw _ (List.mem_of_getElem? (i := 15) rfl))) (by decide) (t := .long) (t' := .long) (by decide) (by decide))))
      refine gGetF (host := "") Gl.cl X142 hx hZ hown (Or.inl (hw _ (List.mem_of_getElem? (i := 27) rfl))) Via.refl e142 Fc145 rfl rfl (hb hby d3_424) ?_
      intro T146 X146 e146
      refine Gl.go (fun _ hr => zXT_lload X146.here hx rfl (hb hby d3_427) rfl (zXT_ladd X146.here hx rfl (hb hby d3_429) rfl (zXT_lstore X146.here hx rfl (hb hby d3_430) rfl (l' := #[.val (.ref x), sJ cn, sS, sJ hi, sS, sJ lo, sS, sJ ex, sS, sJ (fMag cn), sS, sJ ((fMag cn) * lo), sS, sJ (fUMH (fMag cn) lo), sS, sJ (fP1 cn hi lo), sS, sJ (fP2 cn hi lo), sS, sJ 0, sS, sI 0, sI 0, sJ (fS0 cn lo), sS, sJ (fS1 cn hi lo), sS, sJ (fS2 cn hi lo), sS, sJ 0, sS, sJ (fN0 cn lo), sS, sJ (fN1 cn hi lo), sS, sJ (fN2 cn hi lo), sS, sJ (fN3 cn hi lo), sS, sJ ((0 : Int64) + (fN0 cn lo)), sS, sJ (fK1 cn hi lo), sS, sJ (fK2 cn hi lo), sS, sU, sU, sU, sU, sU, sU, sU, sU, sU, sU, sU, sU]) rfl (zXT_lload X146.here hx rfl (hb hby d3_432) rfl (zXS_aloadN X146.here hx rfl (hb hby d3_434) rfl rfl hr))))) ?_
      refine gGetF (host := "") Gl.cl X146 hx hZ hown (Or.inl (hw _ (List.mem_of_getElem? (i := 27) rfl))) Via.refl e146 Fc145 rfl rfl (hb hby d3_435) ?_
      intro T147 X147 e147
      have zz148 : n0 ≤ h106.size := by omega
      refine gStaticN Gl.cl (y := (⟨"java/lang/Long", "compareUnsigned", "(JJ)I"⟩ : MethodName)) (argsL := [(.long ((0 : Int64) + (fN0 cn lo))), (.long (0 : Int64))]) (rest := []) (mc := 0) (ms := 0) X147 hx hZ hown (mvT hZ (hw _ (List.mem_of_getElem? (i := 46) rfl))) (mvT hZ (hw _ (List.mem_of_getElem? (i := 47) rfl))) (mvT hZ (hw _ (List.mem_of_getElem? (i := 48) rfl))) (mvT hZ (hw _ (List.mem_of_getElem? (i := 49) rfl))) (by decide) (backOf (W := 0) (cum l Z a0 hw [] ((0 : Int64) + (fN0 cn lo)) (0 : Int64) h106 n0 zz148 ) hZ (hw _ (List.mem_of_getElem? (i := 49) rfl)) (hw _ (List.mem_of_getElem? (i := 48) rfl)) (by decide) (by decide)) rfl (by rw [hml]; rfl) (lenOf pd_1 rfl) rfl (by show 2 * 0 + _ ≤ _; exact Nat.le_of_eq rfl) (hb hby d3_438) rfl e147 (by decide) (by decide) ?_
      intro v148 T148 Lc148 hQ148 X148
      obtain ⟨rfl, Nq148, e148⟩ := hQ148
      have N148 := Fr.app N142 Nq148
      refine Gl.go (fun _ hr => zXS_ifYes X148.here hx rfl (pc0 := 441) (pc' := 448) rfl (hb hby d3_441) rfl (XT.i0_ge_t (own_cu0 _)) (by decide) (by decide) (zXT_lconst X148.here hx rfl (hb hby d3_448) (zXT_lstore X148.here hx rfl (hb hby d3_449) rfl (l' := #[.val (.ref x), sJ cn, sS, sJ hi, sS, sJ lo, sS, sJ ex, sS, sJ (fMag cn), sS, sJ ((fMag cn) * lo), sS, sJ (fUMH (fMag cn) lo), sS, sJ (fP1 cn hi lo), sS, sJ (fP2 cn hi lo), sS, sJ 0, sS, sI 0, sI 0, sJ (fS0 cn lo), sS, sJ (fS1 cn hi lo), sS, sJ (fS2 cn hi lo), sS, sJ 0, sS, sJ (fN0 cn lo), sS, sJ (fN1 cn hi lo), sS, sJ (fN2 cn hi lo), sS, sJ (fN3 cn hi lo), sS, sJ ((0 : Int64) + (fN0 cn lo)), sS, sJ 0, sS, sJ (fK2 cn hi lo), sS, sU, sU, sU, sU, sU, sU, sU, sU, sU, sU, sU, sU]) rfl (zXS_aloadN X148.here hx rfl (hb hby d3_451) rfl rfl hr)))) ?_
      have Fc149 := (q4.other W106 (Or.inr (slot_ne (Or.inl (hw _ (List.mem_of_getElem? (i := 30) rfl))) (Or.inl (hw _ (List.mem_of_getElem? (i := 15) rfl))) (by decide) (t := .long) (t' := .long) (by decide) (by decide))))
      refine gGetF (host := "") Gl.cl X148 hx hZ hown (Or.inl (hw _ (List.mem_of_getElem? (i := 29) rfl))) Via.refl e148 Fc149 rfl rfl (hb hby d3_452) ?_
      intro T150 X150 e150
      refine Gl.go (fun _ hr => zXT_lload X150.here hx rfl (hb hby d3_455) rfl (zXT_ladd X150.here hx rfl (hb hby d3_457) rfl (zXT_lstore X150.here hx rfl (hb hby d3_458) rfl (l' := #[.val (.ref x), sJ cn, sS, sJ hi, sS, sJ lo, sS, sJ ex, sS, sJ (fMag cn), sS, sJ ((fMag cn) * lo), sS, sJ (fUMH (fMag cn) lo), sS, sJ (fP1 cn hi lo), sS, sJ (fP2 cn hi lo), sS, sJ 0, sS, sI 0, sI 0, sJ (fS0 cn lo), sS, sJ (fS1 cn hi lo), sS, sJ (fS2 cn hi lo), sS, sJ 0, sS, sJ (fN0 cn lo), sS, sJ (fN1 cn hi lo), sS, sJ (fN2 cn hi lo), sS, sJ (fN3 cn hi lo), sS, sJ ((0 : Int64) + (fN0 cn lo)), sS, sJ 0, sS, sJ ((0 : Int64) + (fN1 cn hi lo)), sS, sU, sU, sU, sU, sU, sU, sU, sU, sU, sU, sU, sU]) rfl (zXT_lload X150.here hx rfl (hb hby d3_460) rfl (zXT_lload X150.here hx rfl (hb hby d3_462) rfl (zXT_ladd X150.here hx rfl (hb hby d3_464) rfl (zXT_lstore X150.here hx rfl (hb hby d3_465) rfl (l' := #[.val (.ref x), sJ cn, sS, sJ hi, sS, sJ lo, sS, sJ ex, sS, sJ (fMag cn), sS, sJ ((fMag cn) * lo), sS, sJ (fUMH (fMag cn) lo), sS, sJ (fP1 cn hi lo), sS, sJ (fP2 cn hi lo), sS, sJ 0, sS, sI 0, sI 0, sJ (fS0 cn lo), sS, sJ (fS1 cn hi lo), sS, sJ (fS2 cn hi lo), sS, sJ 0, sS, sJ (fN0 cn lo), sS, sJ (fN1 cn hi lo), sS, sJ (fN2 cn hi lo), sS, sJ (fN3 cn hi lo), sS, sJ ((0 : Int64) + (fN0 cn lo)), sS, sJ 0, sS, sJ ((0 : Int64) + (fN1 cn hi lo)), sS, sJ (((0 : Int64) + (fN1 cn hi lo)) + (0 : Int64)), sS, sU, sU, sU, sU, sU, sU, sU, sU, sU, sU]) rfl (zXT_lload X150.here hx rfl (hb hby d3_467) rfl (zXS_aloadN X150.here hx rfl (hb hby d3_469) rfl rfl hr))))))))) ?_
      refine gGetF (host := "") Gl.cl X150 hx hZ hown (Or.inl (hw _ (List.mem_of_getElem? (i := 29) rfl))) Via.refl e150 Fc149 rfl rfl (hb hby d3_470) ?_
      intro T151 X151 e151
      have zz152 : n0 ≤ h106.size := by omega
      refine gStaticN Gl.cl (y := (⟨"java/lang/Long", "compareUnsigned", "(JJ)I"⟩ : MethodName)) (argsL := [(.long ((0 : Int64) + (fN1 cn hi lo))), (.long (0 : Int64))]) (rest := []) (mc := 0) (ms := 0) X151 hx hZ hown (mvT hZ (hw _ (List.mem_of_getElem? (i := 46) rfl))) (mvT hZ (hw _ (List.mem_of_getElem? (i := 47) rfl))) (mvT hZ (hw _ (List.mem_of_getElem? (i := 48) rfl))) (mvT hZ (hw _ (List.mem_of_getElem? (i := 49) rfl))) (by decide) (backOf (W := 0) (cum l Z a0 hw [] ((0 : Int64) + (fN1 cn hi lo)) (0 : Int64) h106 n0 zz152 ) hZ (hw _ (List.mem_of_getElem? (i := 49) rfl)) (hw _ (List.mem_of_getElem? (i := 48) rfl)) (by decide) (by decide)) rfl (by rw [hml]; rfl) (lenOf pd_1 rfl) rfl (by show 2 * 0 + _ ≤ _; exact Nat.le_of_eq rfl) (hb hby d3_473) rfl e151 (by decide) (by decide) ?_
      intro v152 T152 Lc152 hQ152 X152
      obtain ⟨rfl, Nq152, e152⟩ := hQ152
      have N152 := Fr.app N148 Nq152
      refine Gl.go (fun _ hr => zXS_ifNo X152.here hx rfl (hb hby d3_476) rfl (XT.i0_lt_f (own_cu0 _)) (zXT_lload X152.here hx rfl (hb hby d3_479) rfl (zXT_lload X152.here hx rfl (hb hby d3_481) rfl hr))) ?_
      have zz153 : n0 ≤ h106.size := by omega
      refine gStaticN Gl.cl (y := (⟨"java/lang/Long", "compareUnsigned", "(JJ)I"⟩ : MethodName)) (argsL := [(.long (((0 : Int64) + (fN1 cn hi lo)) + (0 : Int64))), (.long ((0 : Int64) + (fN1 cn hi lo)))]) (rest := []) (mc := 0) (ms := 0) X152 hx hZ hown (mvT hZ (hw _ (List.mem_of_getElem? (i := 46) rfl))) (mvT hZ (hw _ (List.mem_of_getElem? (i := 47) rfl))) (mvT hZ (hw _ (List.mem_of_getElem? (i := 48) rfl))) (mvT hZ (hw _ (List.mem_of_getElem? (i := 49) rfl))) (by decide) (backOf (W := 0) (cum l Z a0 hw [] (((0 : Int64) + (fN1 cn hi lo)) + (0 : Int64)) ((0 : Int64) + (fN1 cn hi lo)) h106 n0 zz153 ) hZ (hw _ (List.mem_of_getElem? (i := 49) rfl)) (hw _ (List.mem_of_getElem? (i := 48) rfl)) (by decide) (by decide)) rfl (by rw [hml]; rfl) (lenOf pd_1 rfl) rfl (by show 2 * 0 + _ ≤ _; exact Nat.le_of_eq rfl) (hb hby d3_483) rfl e152 (by decide) (by decide) ?_
      intro v153 T153 Lc153 hQ153 X153
      obtain ⟨rfl, Nq153, e153⟩ := hQ153
      have N153 := Fr.app N152 Nq153
      refine Gl.go (fun _ hr => zXS_ifYes X153.here hx rfl (pc0 := 486) (pc' := 493) rfl (hb hby d3_486) rfl (XT.i0_ge_t (own_cuadd0 _)) (by decide) (by decide) (zXT_lconst X153.here hx rfl (hb hby d3_493) (zXT_lstore X153.here hx rfl (hb hby d3_494) rfl (l' := #[.val (.ref x), sJ cn, sS, sJ hi, sS, sJ lo, sS, sJ ex, sS, sJ (fMag cn), sS, sJ ((fMag cn) * lo), sS, sJ (fUMH (fMag cn) lo), sS, sJ (fP1 cn hi lo), sS, sJ (fP2 cn hi lo), sS, sJ 0, sS, sI 0, sI 0, sJ (fS0 cn lo), sS, sJ (fS1 cn hi lo), sS, sJ (fS2 cn hi lo), sS, sJ 0, sS, sJ (fN0 cn lo), sS, sJ (fN1 cn hi lo), sS, sJ (fN2 cn hi lo), sS, sJ (fN3 cn hi lo), sS, sJ ((0 : Int64) + (fN0 cn lo)), sS, sJ 0, sS, sJ ((0 : Int64) + (fN1 cn hi lo)), sS, sJ (((0 : Int64) + (fN1 cn hi lo)) + (0 : Int64)), sS, sJ 0, sS, sU, sU, sU, sU, sU, sU, sU, sU]) rfl (zXS_aloadN X153.here hx rfl (hb hby d3_496) rfl rfl hr)))) ?_
      have Fc154 := (q5.other W106 (Or.inr (slot_ne (Or.inl (hw _ (List.mem_of_getElem? (i := 32) rfl))) (Or.inl (hw _ (List.mem_of_getElem? (i := 15) rfl))) (by decide) (t := .long) (t' := .long) (by decide) (by decide))))
      refine gGetF (host := "") Gl.cl X153 hx hZ hown (Or.inl (hw _ (List.mem_of_getElem? (i := 31) rfl))) Via.refl e153 Fc154 rfl rfl (hb hby d3_497) ?_
      intro T155 X155 e155
      refine Gl.go (fun _ hr => zXT_lload X155.here hx rfl (hb hby d3_500) rfl (zXT_ladd X155.here hx rfl (hb hby d3_502) rfl (zXT_lstore X155.here hx rfl (hb hby d3_503) rfl (l' := #[.val (.ref x), sJ cn, sS, sJ hi, sS, sJ lo, sS, sJ ex, sS, sJ (fMag cn), sS, sJ ((fMag cn) * lo), sS, sJ (fUMH (fMag cn) lo), sS, sJ (fP1 cn hi lo), sS, sJ (fP2 cn hi lo), sS, sJ 0, sS, sI 0, sI 0, sJ (fS0 cn lo), sS, sJ (fS1 cn hi lo), sS, sJ (fS2 cn hi lo), sS, sJ 0, sS, sJ (fN0 cn lo), sS, sJ (fN1 cn hi lo), sS, sJ (fN2 cn hi lo), sS, sJ (fN3 cn hi lo), sS, sJ ((0 : Int64) + (fN0 cn lo)), sS, sJ 0, sS, sJ ((0 : Int64) + (fN1 cn hi lo)), sS, sJ (((0 : Int64) + (fN1 cn hi lo)) + (0 : Int64)), sS, sJ 0, sS, sJ ((0 : Int64) + (fN2 cn hi lo)), sS, sU, sU, sU, sU, sU, sU]) rfl (zXT_lload X155.here hx rfl (hb hby d3_505) rfl (zXT_lload X155.here hx rfl (hb hby d3_507) rfl (zXT_ladd X155.here hx rfl (hb hby d3_509) rfl (zXT_lstore X155.here hx rfl (hb hby d3_510) rfl (l' := #[.val (.ref x), sJ cn, sS, sJ hi, sS, sJ lo, sS, sJ ex, sS, sJ (fMag cn), sS, sJ ((fMag cn) * lo), sS, sJ (fUMH (fMag cn) lo), sS, sJ (fP1 cn hi lo), sS, sJ (fP2 cn hi lo), sS, sJ 0, sS, sI 0, sI 0, sJ (fS0 cn lo), sS, sJ (fS1 cn hi lo), sS, sJ (fS2 cn hi lo), sS, sJ 0, sS, sJ (fN0 cn lo), sS, sJ (fN1 cn hi lo), sS, sJ (fN2 cn hi lo), sS, sJ (fN3 cn hi lo), sS, sJ ((0 : Int64) + (fN0 cn lo)), sS, sJ 0, sS, sJ ((0 : Int64) + (fN1 cn hi lo)), sS, sJ (((0 : Int64) + (fN1 cn hi lo)) + (0 : Int64)), sS, sJ 0, sS, sJ ((0 : Int64) + (fN2 cn hi lo)), sS, sJ (((0 : Int64) + (fN2 cn hi lo)) + (0 : Int64)), sS, sU, sU, sU, sU]) rfl (zXT_lload X155.here hx rfl (hb hby d3_512) rfl (zXS_aloadN X155.here hx rfl (hb hby d3_514) rfl rfl hr))))))))) ?_
      refine gGetF (host := "") Gl.cl X155 hx hZ hown (Or.inl (hw _ (List.mem_of_getElem? (i := 31) rfl))) Via.refl e155 Fc154 rfl rfl (hb hby d3_515) ?_
      intro T156 X156 e156
      have zz157 : n0 ≤ h106.size := by omega
      refine gStaticN Gl.cl (y := (⟨"java/lang/Long", "compareUnsigned", "(JJ)I"⟩ : MethodName)) (argsL := [(.long ((0 : Int64) + (fN2 cn hi lo))), (.long (0 : Int64))]) (rest := []) (mc := 0) (ms := 0) X156 hx hZ hown (mvT hZ (hw _ (List.mem_of_getElem? (i := 46) rfl))) (mvT hZ (hw _ (List.mem_of_getElem? (i := 47) rfl))) (mvT hZ (hw _ (List.mem_of_getElem? (i := 48) rfl))) (mvT hZ (hw _ (List.mem_of_getElem? (i := 49) rfl))) (by decide) (backOf (W := 0) (cum l Z a0 hw [] ((0 : Int64) + (fN2 cn hi lo)) (0 : Int64) h106 n0 zz157 ) hZ (hw _ (List.mem_of_getElem? (i := 49) rfl)) (hw _ (List.mem_of_getElem? (i := 48) rfl)) (by decide) (by decide)) rfl (by rw [hml]; rfl) (lenOf pd_1 rfl) rfl (by show 2 * 0 + _ ≤ _; exact Nat.le_of_eq rfl) (hb hby d3_518) rfl e156 (by decide) (by decide) ?_
      intro v157 T157 Lc157 hQ157 X157
      obtain ⟨rfl, Nq157, e157⟩ := hQ157
      have N157 := Fr.app N153 Nq157
      refine Gl.go (fun _ hr => zXS_ifNo X157.here hx rfl (hb hby d3_521) rfl (XT.i0_lt_f (own_cu0 _)) (zXT_lload X157.here hx rfl (hb hby d3_524) rfl (zXT_lload X157.here hx rfl (hb hby d3_526) rfl hr))) ?_
      have zz158 : n0 ≤ h106.size := by omega
      refine gStaticN Gl.cl (y := (⟨"java/lang/Long", "compareUnsigned", "(JJ)I"⟩ : MethodName)) (argsL := [(.long (((0 : Int64) + (fN2 cn hi lo)) + (0 : Int64))), (.long ((0 : Int64) + (fN2 cn hi lo)))]) (rest := []) (mc := 0) (ms := 0) X157 hx hZ hown (mvT hZ (hw _ (List.mem_of_getElem? (i := 46) rfl))) (mvT hZ (hw _ (List.mem_of_getElem? (i := 47) rfl))) (mvT hZ (hw _ (List.mem_of_getElem? (i := 48) rfl))) (mvT hZ (hw _ (List.mem_of_getElem? (i := 49) rfl))) (by decide) (backOf (W := 0) (cum l Z a0 hw [] (((0 : Int64) + (fN2 cn hi lo)) + (0 : Int64)) ((0 : Int64) + (fN2 cn hi lo)) h106 n0 zz158 ) hZ (hw _ (List.mem_of_getElem? (i := 49) rfl)) (hw _ (List.mem_of_getElem? (i := 48) rfl)) (by decide) (by decide)) rfl (by rw [hml]; rfl) (lenOf pd_1 rfl) rfl (by show 2 * 0 + _ ≤ _; exact Nat.le_of_eq rfl) (hb hby d3_528) rfl e157 (by decide) (by decide) ?_
      intro v158 T158 Lc158 hQ158 X158
      obtain ⟨rfl, Nq158, e158⟩ := hQ158
      have N158 := Fr.app N157 Nq158
      refine Gl.go (fun _ hr => zXS_ifYes X158.here hx rfl (pc0 := 531) (pc' := 538) rfl (hb hby d3_531) rfl (XT.i0_ge_t (own_cuadd0 _)) (by decide) (by decide) (zXT_lconst X158.here hx rfl (hb hby d3_538) (zXT_lstore X158.here hx rfl (hb hby d3_539) rfl (l' := #[.val (.ref x), sJ cn, sS, sJ hi, sS, sJ lo, sS, sJ ex, sS, sJ (fMag cn), sS, sJ ((fMag cn) * lo), sS, sJ (fUMH (fMag cn) lo), sS, sJ (fP1 cn hi lo), sS, sJ (fP2 cn hi lo), sS, sJ 0, sS, sI 0, sI 0, sJ (fS0 cn lo), sS, sJ (fS1 cn hi lo), sS, sJ (fS2 cn hi lo), sS, sJ 0, sS, sJ (fN0 cn lo), sS, sJ (fN1 cn hi lo), sS, sJ (fN2 cn hi lo), sS, sJ (fN3 cn hi lo), sS, sJ ((0 : Int64) + (fN0 cn lo)), sS, sJ 0, sS, sJ ((0 : Int64) + (fN1 cn hi lo)), sS, sJ (((0 : Int64) + (fN1 cn hi lo)) + (0 : Int64)), sS, sJ 0, sS, sJ ((0 : Int64) + (fN2 cn hi lo)), sS, sJ (((0 : Int64) + (fN2 cn hi lo)) + (0 : Int64)), sS, sJ 0, sS, sU, sU]) rfl (zXS_aloadN X158.here hx rfl (hb hby d3_541) rfl rfl hr)))) ?_
      have Fc159 := (q6.other W106 (Or.inr (slot_ne (Or.inl (hw _ (List.mem_of_getElem? (i := 34) rfl))) (Or.inl (hw _ (List.mem_of_getElem? (i := 15) rfl))) (by decide) (t := .long) (t' := .long) (by decide) (by decide))))
      refine gGetF (host := "") Gl.cl X158 hx hZ hown (Or.inl (hw _ (List.mem_of_getElem? (i := 33) rfl))) Via.refl e158 Fc159 rfl rfl (hb hby d3_542) ?_
      intro T160 X160 e160
      refine Gl.go (fun _ hr => zXT_lload X160.here hx rfl (hb hby d3_545) rfl (zXT_ladd X160.here hx rfl (hb hby d3_547) rfl (zXT_lload X160.here hx rfl (hb hby d3_548) rfl (zXT_ladd X160.here hx rfl (hb hby d3_550) rfl (zXT_lstore X160.here hx rfl (hb hby d3_551) rfl (l' := #[.val (.ref x), sJ cn, sS, sJ hi, sS, sJ lo, sS, sJ ex, sS, sJ (fMag cn), sS, sJ ((fMag cn) * lo), sS, sJ (fUMH (fMag cn) lo), sS, sJ (fP1 cn hi lo), sS, sJ (fP2 cn hi lo), sS, sJ 0, sS, sI 0, sI 0, sJ (fS0 cn lo), sS, sJ (fS1 cn hi lo), sS, sJ (fS2 cn hi lo), sS, sJ 0, sS, sJ (fN0 cn lo), sS, sJ (fN1 cn hi lo), sS, sJ (fN2 cn hi lo), sS, sJ (fN3 cn hi lo), sS, sJ ((0 : Int64) + (fN0 cn lo)), sS, sJ 0, sS, sJ ((0 : Int64) + (fN1 cn hi lo)), sS, sJ (((0 : Int64) + (fN1 cn hi lo)) + (0 : Int64)), sS, sJ 0, sS, sJ ((0 : Int64) + (fN2 cn hi lo)), sS, sJ (((0 : Int64) + (fN2 cn hi lo)) + (0 : Int64)), sS, sJ 0, sS, sJ (((0 : Int64) + (fN3 cn hi lo)) + (0 : Int64)), sS]) rfl (zXS_aloadN X160.here hx rfl (hb hby d3_553) rfl rfl hr)))))) ?_
      refine gGetF (host := "") Gl.cl X160 hx hZ hown (Or.inl (hw _ (List.mem_of_getElem? (i := 33) rfl))) Via.refl e160 Fc159 rfl rfl (hb hby d3_554) ?_
      intro T161 X161 e161
      refine Gl.go (fun _ hr => zXT_lload X161.here hx rfl (hb hby d3_557) rfl (zXT_lxor X161.here hx rfl (hb hby d3_559) rfl (zXT_lload X161.here hx rfl (hb hby d3_560) rfl (zXT_lload X161.here hx rfl (hb hby d3_562) rfl (zXT_lxor X161.here hx rfl (hb hby d3_564) rfl (zXT_land X161.here hx rfl (hb hby d3_565) rfl (zXT_lconst X161.here hx rfl (hb hby d3_566) (zXT_lcmp X161.here hx rfl (hb hby d3_567) rfl hr)))))))) ?_
      refine Gl.go (fun _ hr => zXS_ifYes X161.here hx rfl (pc0 := 568) (pc' := 581) rfl (hb hby d3_568) rfl (XT.ll_ge_t (own_ov0 _)) (by decide) (by decide) (zXS_aloadN X161.here hx rfl (hb hby d3_581) rfl rfl (zXT_lload X161.here hx rfl (hb hby d3_582) rfl hr))) ?_
      have Ec162 := (q0.wr W106)
      refine gPutF (host := "") Gl.cl X161 hx hZ hown (Or.inl (hw _ (List.mem_of_getElem? (i := 27) rfl))) Via.refl e161 Fc145 Ec162 (Or.inl (hw _ (List.mem_of_getElem? (i := 28) rfl))) (hw _ (List.mem_of_getElem? (i := 5) rfl)) (ty := .long) (by decide) rfl rfl rfl rfl (hb hby d3_584) ?_
      intro T163 h163 X163 e163 W163
      have z164 : h106.size ≤ h163.size := (Keep.of_wr W163).1
      have Fw163 := Fc145.same W163
      have N163 := Fr.snoc X163 N158 (own_ale (by omega))
      refine Gl.go (fun _ hr => zXS_aloadN X163.here hx rfl (hb hby d3_587) rfl rfl (zXT_lload X163.here hx rfl (hb hby d3_588) rfl hr)) ?_
      have Fc165 := (Fc149.other W163 (Or.inr (slot_ne (Or.inl (hw _ (List.mem_of_getElem? (i := 30) rfl))) (Or.inl (hw _ (List.mem_of_getElem? (i := 28) rfl))) (by decide) (t := .long) (t' := .long) (by decide) (by decide))))
      have Ec166 := (Ec162.wr W163)
      refine gPutF (host := "") Gl.cl X163 hx hZ hown (Or.inl (hw _ (List.mem_of_getElem? (i := 29) rfl))) Via.refl e163 Fc165 Ec166 (Or.inl (hw _ (List.mem_of_getElem? (i := 30) rfl))) (hw _ (List.mem_of_getElem? (i := 5) rfl)) (ty := .long) (by decide) rfl rfl rfl rfl (hb hby d3_590) ?_
      intro T167 h167 X167 e167 W167
      have z168 : h163.size ≤ h167.size := (Keep.of_wr W167).1
      have Fw167 := Fc165.same W167
      have N167 := Fr.snoc X167 N163 (own_ale (by omega))
      refine Gl.go (fun _ hr => zXS_aloadN X167.here hx rfl (hb hby d3_593) rfl rfl (zXT_lload X167.here hx rfl (hb hby d3_594) rfl hr)) ?_
      have Fc169 := ((Fc154.other W163 (Or.inr (slot_ne (Or.inl (hw _ (List.mem_of_getElem? (i := 32) rfl))) (Or.inl (hw _ (List.mem_of_getElem? (i := 28) rfl))) (by decide) (t := .long) (t' := .long) (by decide) (by decide)))).other W167 (Or.inr (slot_ne (Or.inl (hw _ (List.mem_of_getElem? (i := 32) rfl))) (Or.inl (hw _ (List.mem_of_getElem? (i := 30) rfl))) (by decide) (t := .long) (t' := .long) (by decide) (by decide))))
      have Ec170 := (Ec166.wr W167)
      refine gPutF (host := "") Gl.cl X167 hx hZ hown (Or.inl (hw _ (List.mem_of_getElem? (i := 31) rfl))) Via.refl e167 Fc169 Ec170 (Or.inl (hw _ (List.mem_of_getElem? (i := 32) rfl))) (hw _ (List.mem_of_getElem? (i := 5) rfl)) (ty := .long) (by decide) rfl rfl rfl rfl (hb hby d3_596) ?_
      intro T171 h171 X171 e171 W171
      have z172 : h167.size ≤ h171.size := (Keep.of_wr W171).1
      have Fw171 := Fc169.same W171
      have N171 := Fr.snoc X171 N167 (own_ale (by omega))
      refine Gl.go (fun _ hr => zXS_aloadN X171.here hx rfl (hb hby d3_599) rfl rfl (zXT_lload X171.here hx rfl (hb hby d3_600) rfl hr)) ?_
      have Fc173 := (((Fc159.other W163 (Or.inr (slot_ne (Or.inl (hw _ (List.mem_of_getElem? (i := 34) rfl))) (Or.inl (hw _ (List.mem_of_getElem? (i := 28) rfl))) (by decide) (t := .long) (t' := .long) (by decide) (by decide)))).other W167 (Or.inr (slot_ne (Or.inl (hw _ (List.mem_of_getElem? (i := 34) rfl))) (Or.inl (hw _ (List.mem_of_getElem? (i := 30) rfl))) (by decide) (t := .long) (t' := .long) (by decide) (by decide)))).other W171 (Or.inr (slot_ne (Or.inl (hw _ (List.mem_of_getElem? (i := 34) rfl))) (Or.inl (hw _ (List.mem_of_getElem? (i := 32) rfl))) (by decide) (t := .long) (t' := .long) (by decide) (by decide))))
      have Ec174 := (Ec170.wr W171)
      refine gPutF (host := "") Gl.cl X171 hx hZ hown (Or.inl (hw _ (List.mem_of_getElem? (i := 33) rfl))) Via.refl e171 Fc173 Ec174 (Or.inl (hw _ (List.mem_of_getElem? (i := 34) rfl))) (hw _ (List.mem_of_getElem? (i := 5) rfl)) (ty := .long) (by decide) rfl rfl rfl rfl (hb hby d3_602) ?_
      intro T175 h175 X175 e175 W175
      have z176 : h171.size ≤ h175.size := (Keep.of_wr W175).1
      have Fw175 := Fc173.same W175
      have N175 := Fr.snoc X175 N171 (own_ale (by omega))
      refine Gl.go (fun _ hr => zXS_aloadN X175.here hx rfl (hb hby d3_605) rfl rfl (zXS_iconst X175.here hx rfl (hb hby d3_606) hr)) ?_
      have Fc177 := (((((q7.other W106 (Or.inr (slot_ne (Or.inl (hw _ (List.mem_of_getElem? (i := 66) rfl))) (Or.inl (hw _ (List.mem_of_getElem? (i := 15) rfl))) (by decide) (t := .boolean) (t' := .long) (by decide) (by decide)))).other W163 (Or.inr (slot_ne (Or.inl (hw _ (List.mem_of_getElem? (i := 66) rfl))) (Or.inl (hw _ (List.mem_of_getElem? (i := 28) rfl))) (by decide) (t := .boolean) (t' := .long) (by decide) (by decide)))).other W167 (Or.inr (slot_ne (Or.inl (hw _ (List.mem_of_getElem? (i := 66) rfl))) (Or.inl (hw _ (List.mem_of_getElem? (i := 30) rfl))) (by decide) (t := .boolean) (t' := .long) (by decide) (by decide)))).other W171 (Or.inr (slot_ne (Or.inl (hw _ (List.mem_of_getElem? (i := 66) rfl))) (Or.inl (hw _ (List.mem_of_getElem? (i := 32) rfl))) (by decide) (t := .boolean) (t' := .long) (by decide) (by decide)))).other W175 (Or.inr (slot_ne (Or.inl (hw _ (List.mem_of_getElem? (i := 66) rfl))) (Or.inl (hw _ (List.mem_of_getElem? (i := 34) rfl))) (by decide) (t := .boolean) (t' := .long) (by decide) (by decide))))
      have Ec178 := (Ec174.wr W175)
      refine gPutF (host := "") Gl.cl X175 hx hZ hown (Or.inl (hw _ (List.mem_of_getElem? (i := 65) rfl))) Via.refl e175 Fc177 Ec178 (Or.inl (hw _ (List.mem_of_getElem? (i := 66) rfl))) (hw _ (List.mem_of_getElem? (i := 5) rfl)) (ty := .boolean) (by decide) rfl rfl rfl rfl (hb hby d3_607) ?_
      intro T179 h179 X179 e179 W179
      have z180 : h175.size ≤ h179.size := (Keep.of_wr W179).1
      have Fw179 := Fc177.same W179
      have N179 := Fr.snoc X179 N175 (own_ale (by omega))
      have Ec181 := (Ec178.wr W179)
      have Fc182 := (((((Fw106.other W163 (Or.inr (slot_ne (Or.inl (hw _ (List.mem_of_getElem? (i := 15) rfl))) (Or.inl (hw _ (List.mem_of_getElem? (i := 28) rfl))) (by decide) (t := .long) (t' := .long) (by decide) (by decide)))).other W167 (Or.inr (slot_ne (Or.inl (hw _ (List.mem_of_getElem? (i := 15) rfl))) (Or.inl (hw _ (List.mem_of_getElem? (i := 30) rfl))) (by decide) (t := .long) (t' := .long) (by decide) (by decide)))).other W171 (Or.inr (slot_ne (Or.inl (hw _ (List.mem_of_getElem? (i := 15) rfl))) (Or.inl (hw _ (List.mem_of_getElem? (i := 32) rfl))) (by decide) (t := .long) (t' := .long) (by decide) (by decide)))).other W175 (Or.inr (slot_ne (Or.inl (hw _ (List.mem_of_getElem? (i := 15) rfl))) (Or.inl (hw _ (List.mem_of_getElem? (i := 34) rfl))) (by decide) (t := .long) (t' := .long) (by decide) (by decide)))).other W179 (Or.inr (slot_ne (Or.inl (hw _ (List.mem_of_getElem? (i := 15) rfl))) (Or.inl (hw _ (List.mem_of_getElem? (i := 66) rfl))) (by decide) (t := .long) (t' := .boolean) (by decide) (by decide))))
      have Fc183 := ((((Fw163.other W167 (Or.inr (slot_ne (Or.inl (hw _ (List.mem_of_getElem? (i := 28) rfl))) (Or.inl (hw _ (List.mem_of_getElem? (i := 30) rfl))) (by decide) (t := .long) (t' := .long) (by decide) (by decide)))).other W171 (Or.inr (slot_ne (Or.inl (hw _ (List.mem_of_getElem? (i := 28) rfl))) (Or.inl (hw _ (List.mem_of_getElem? (i := 32) rfl))) (by decide) (t := .long) (t' := .long) (by decide) (by decide)))).other W175 (Or.inr (slot_ne (Or.inl (hw _ (List.mem_of_getElem? (i := 28) rfl))) (Or.inl (hw _ (List.mem_of_getElem? (i := 34) rfl))) (by decide) (t := .long) (t' := .long) (by decide) (by decide)))).other W179 (Or.inr (slot_ne (Or.inl (hw _ (List.mem_of_getElem? (i := 28) rfl))) (Or.inl (hw _ (List.mem_of_getElem? (i := 66) rfl))) (by decide) (t := .long) (t' := .boolean) (by decide) (by decide))))
      have Fc184 := (((Fw167.other W171 (Or.inr (slot_ne (Or.inl (hw _ (List.mem_of_getElem? (i := 30) rfl))) (Or.inl (hw _ (List.mem_of_getElem? (i := 32) rfl))) (by decide) (t := .long) (t' := .long) (by decide) (by decide)))).other W175 (Or.inr (slot_ne (Or.inl (hw _ (List.mem_of_getElem? (i := 30) rfl))) (Or.inl (hw _ (List.mem_of_getElem? (i := 34) rfl))) (by decide) (t := .long) (t' := .long) (by decide) (by decide)))).other W179 (Or.inr (slot_ne (Or.inl (hw _ (List.mem_of_getElem? (i := 30) rfl))) (Or.inl (hw _ (List.mem_of_getElem? (i := 66) rfl))) (by decide) (t := .long) (t' := .boolean) (by decide) (by decide))))
      have Fc185 := ((Fw171.other W175 (Or.inr (slot_ne (Or.inl (hw _ (List.mem_of_getElem? (i := 32) rfl))) (Or.inl (hw _ (List.mem_of_getElem? (i := 34) rfl))) (by decide) (t := .long) (t' := .long) (by decide) (by decide)))).other W179 (Or.inr (slot_ne (Or.inl (hw _ (List.mem_of_getElem? (i := 32) rfl))) (Or.inl (hw _ (List.mem_of_getElem? (i := 66) rfl))) (by decide) (t := .long) (t' := .boolean) (by decide) (by decide))))
      have Fc186 := (Fw175.other W179 (Or.inr (slot_ne (Or.inl (hw _ (List.mem_of_getElem? (i := 34) rfl))) (Or.inl (hw _ (List.mem_of_getElem? (i := 66) rfl))) (by decide) (t := .long) (t' := .boolean) (by decide) (by decide))))
      obtain ⟨fs, hr, hrun, hended, hW, hsame⟩ := X179.leave (v := none) (fun _ => rfl)
      refine ⟨_, _, X179.returnOut hx Bd.returns (hb hby d3_610) hr, hrun, hended, _, _, rfl, ?_, ⟨⟨_, rfl⟩, hW, hsame.mono (by decide) (by decide)⟩⟩
      show QaddA Z x cn hi lo ex h0 n0 _ T179.heap _
      rw [e179]
      exact ⟨((0 : Int64) + (fN0 cn lo)), (((0 : Int64) + (fN1 cn hi lo)) + (0 : Int64)), (((0 : Int64) + (fN2 cn hi lo)) + (0 : Int64)), (((0 : Int64) + (fN3 cn hi lo)) + (0 : Int64)), rfl, N179, (((((((Keep.refl h0 [x]).wr W106 (Or.inl (by simp))).wr W163 (Or.inl (by simp))).wr W167 (Or.inl (by simp))).wr W171 (Or.inl (by simp))).wr W175 (Or.inl (by simp))).wr W179 (Or.inl (by simp))), Ec181, Fc182, Fc183, Fc184, Fc185, Fc186, Fw179, (by rw [fA, if_neg hE, if_pos hc136]), (own_n3 _ _ _)⟩
    · refine Gl.go (fun _ hr => zXS_ifYes X135.here hx rfl (pc0 := 321) (pc' := 423) rfl (hb hby d3_321) rfl (XT.ll_ge_t hc136) (by decide) (by decide) (zXS_aloadN X135.here hx rfl (hb hby d3_423) rfl rfl hr)) ?_
      have Fc187 := (q3.other W106 (Or.inr (slot_ne (Or.inl (hw _ (List.mem_of_getElem? (i := 28) rfl))) (Or.inl (hw _ (List.mem_of_getElem? (i := 15) rfl))) (by decide) (t := .long) (t' := .long) (by decide) (by decide))))
      refine gGetF (host := "") Gl.cl X135 hx hZ hown (Or.inl (hw _ (List.mem_of_getElem? (i := 27) rfl))) Via.refl e135 Fc187 rfl rfl (hb hby d3_424) ?_
      intro T188 X188 e188
      refine Gl.go (fun _ hr => zXT_lload X188.here hx rfl (hb hby d3_427) rfl (zXT_ladd X188.here hx rfl (hb hby d3_429) rfl (zXT_lstore X188.here hx rfl (hb hby d3_430) rfl (l' := #[.val (.ref x), sJ cn, sS, sJ hi, sS, sJ lo, sS, sJ ex, sS, sJ (fMag cn), sS, sJ ((fMag cn) * lo), sS, sJ (fUMH (fMag cn) lo), sS, sJ (fP1 cn hi lo), sS, sJ (fP2 cn hi lo), sS, sJ 0, sS, sI 0, sI 0, sJ (fS0 cn lo), sS, sJ (fS1 cn hi lo), sS, sJ (fS2 cn hi lo), sS, sJ 0, sS, sJ (fS0 cn lo), sS, sJ (fS1 cn hi lo), sS, sJ (fS2 cn hi lo), sS, sJ 0, sS, sJ ((0 : Int64) + (fS0 cn lo)), sS, sU, sU, sU, sU, sU, sU, sU, sU, sU, sU, sU, sU, sU, sU, sU, sU]) rfl (zXT_lload X188.here hx rfl (hb hby d3_432) rfl (zXS_aloadN X188.here hx rfl (hb hby d3_434) rfl rfl hr))))) ?_
      refine gGetF (host := "") Gl.cl X188 hx hZ hown (Or.inl (hw _ (List.mem_of_getElem? (i := 27) rfl))) Via.refl e188 Fc187 rfl rfl (hb hby d3_435) ?_
      intro T189 X189 e189
      have zz190 : n0 ≤ h106.size := by omega
      refine gStaticN Gl.cl (y := (⟨"java/lang/Long", "compareUnsigned", "(JJ)I"⟩ : MethodName)) (argsL := [(.long ((0 : Int64) + (fS0 cn lo))), (.long (0 : Int64))]) (rest := []) (mc := 0) (ms := 0) X189 hx hZ hown (mvT hZ (hw _ (List.mem_of_getElem? (i := 46) rfl))) (mvT hZ (hw _ (List.mem_of_getElem? (i := 47) rfl))) (mvT hZ (hw _ (List.mem_of_getElem? (i := 48) rfl))) (mvT hZ (hw _ (List.mem_of_getElem? (i := 49) rfl))) (by decide) (backOf (W := 0) (cum l Z a0 hw [] ((0 : Int64) + (fS0 cn lo)) (0 : Int64) h106 n0 zz190 ) hZ (hw _ (List.mem_of_getElem? (i := 49) rfl)) (hw _ (List.mem_of_getElem? (i := 48) rfl)) (by decide) (by decide)) rfl (by rw [hml]; rfl) (lenOf pd_1 rfl) rfl (by show 2 * 0 + _ ≤ _; exact Nat.le_of_eq rfl) (hb hby d3_438) rfl e189 (by decide) (by decide) ?_
      intro v190 T190 Lc190 hQ190 X190
      obtain ⟨rfl, Nq190, e190⟩ := hQ190
      have N190 := Fr.app N135 Nq190
      refine Gl.go (fun _ hr => zXS_ifYes X190.here hx rfl (pc0 := 441) (pc' := 448) rfl (hb hby d3_441) rfl (XT.i0_ge_t (own_cu0 _)) (by decide) (by decide) (zXT_lconst X190.here hx rfl (hb hby d3_448) (zXT_lstore X190.here hx rfl (hb hby d3_449) rfl (l' := #[.val (.ref x), sJ cn, sS, sJ hi, sS, sJ lo, sS, sJ ex, sS, sJ (fMag cn), sS, sJ ((fMag cn) * lo), sS, sJ (fUMH (fMag cn) lo), sS, sJ (fP1 cn hi lo), sS, sJ (fP2 cn hi lo), sS, sJ 0, sS, sI 0, sI 0, sJ (fS0 cn lo), sS, sJ (fS1 cn hi lo), sS, sJ (fS2 cn hi lo), sS, sJ 0, sS, sJ (fS0 cn lo), sS, sJ (fS1 cn hi lo), sS, sJ (fS2 cn hi lo), sS, sJ 0, sS, sJ ((0 : Int64) + (fS0 cn lo)), sS, sJ 0, sS, sU, sU, sU, sU, sU, sU, sU, sU, sU, sU, sU, sU, sU, sU]) rfl (zXS_aloadN X190.here hx rfl (hb hby d3_451) rfl rfl hr)))) ?_
      have Fc191 := (q4.other W106 (Or.inr (slot_ne (Or.inl (hw _ (List.mem_of_getElem? (i := 30) rfl))) (Or.inl (hw _ (List.mem_of_getElem? (i := 15) rfl))) (by decide) (t := .long) (t' := .long) (by decide) (by decide))))
      refine gGetF (host := "") Gl.cl X190 hx hZ hown (Or.inl (hw _ (List.mem_of_getElem? (i := 29) rfl))) Via.refl e190 Fc191 rfl rfl (hb hby d3_452) ?_
      intro T192 X192 e192
      refine Gl.go (fun _ hr => zXT_lload X192.here hx rfl (hb hby d3_455) rfl (zXT_ladd X192.here hx rfl (hb hby d3_457) rfl (zXT_lstore X192.here hx rfl (hb hby d3_458) rfl (l' := #[.val (.ref x), sJ cn, sS, sJ hi, sS, sJ lo, sS, sJ ex, sS, sJ (fMag cn), sS, sJ ((fMag cn) * lo), sS, sJ (fUMH (fMag cn) lo), sS, sJ (fP1 cn hi lo), sS, sJ (fP2 cn hi lo), sS, sJ 0, sS, sI 0, sI 0, sJ (fS0 cn lo), sS, sJ (fS1 cn hi lo), sS, sJ (fS2 cn hi lo), sS, sJ 0, sS, sJ (fS0 cn lo), sS, sJ (fS1 cn hi lo), sS, sJ (fS2 cn hi lo), sS, sJ 0, sS, sJ ((0 : Int64) + (fS0 cn lo)), sS, sJ 0, sS, sJ ((0 : Int64) + (fS1 cn hi lo)), sS, sU, sU, sU, sU, sU, sU, sU, sU, sU, sU, sU, sU]) rfl (zXT_lload X192.here hx rfl (hb hby d3_460) rfl (zXT_lload X192.here hx rfl (hb hby d3_462) rfl (zXT_ladd X192.here hx rfl (hb hby d3_464) rfl (zXT_lstore X192.here hx rfl (hb hby d3_465) rfl (l' := #[.val (.ref x), sJ cn, sS, sJ hi, sS, sJ lo, sS, sJ ex, sS, sJ (fMag cn), sS, sJ ((fMag cn) * lo), sS, sJ (fUMH (fMag cn) lo), sS, sJ (fP1 cn hi lo), sS, sJ (fP2 cn hi lo), sS, sJ 0, sS, sI 0, sI 0, sJ (fS0 cn lo), sS, sJ (fS1 cn hi lo), sS, sJ (fS2 cn hi lo), sS, sJ 0, sS, sJ (fS0 cn lo), sS, sJ (fS1 cn hi lo), sS, sJ (fS2 cn hi lo), sS, sJ 0, sS, sJ ((0 : Int64) + (fS0 cn lo)), sS, sJ 0, sS, sJ ((0 : Int64) + (fS1 cn hi lo)), sS, sJ (((0 : Int64) + (fS1 cn hi lo)) + (0 : Int64)), sS, sU, sU, sU, sU, sU, sU, sU, sU, sU, sU]) rfl (zXT_lload X192.here hx rfl (hb hby d3_467) rfl (zXS_aloadN X192.here hx rfl (hb hby d3_469) rfl rfl hr))))))))) ?_
      refine gGetF (host := "") Gl.cl X192 hx hZ hown (Or.inl (hw _ (List.mem_of_getElem? (i := 29) rfl))) Via.refl e192 Fc191 rfl rfl (hb hby d3_470) ?_
      intro T193 X193 e193
      have zz194 : n0 ≤ h106.size := by omega
      refine gStaticN Gl.cl (y := (⟨"java/lang/Long", "compareUnsigned", "(JJ)I"⟩ : MethodName)) (argsL := [(.long ((0 : Int64) + (fS1 cn hi lo))), (.long (0 : Int64))]) (rest := []) (mc := 0) (ms := 0) X193 hx hZ hown (mvT hZ (hw _ (List.mem_of_getElem? (i := 46) rfl))) (mvT hZ (hw _ (List.mem_of_getElem? (i := 47) rfl))) (mvT hZ (hw _ (List.mem_of_getElem? (i := 48) rfl))) (mvT hZ (hw _ (List.mem_of_getElem? (i := 49) rfl))) (by decide) (backOf (W := 0) (cum l Z a0 hw [] ((0 : Int64) + (fS1 cn hi lo)) (0 : Int64) h106 n0 zz194 ) hZ (hw _ (List.mem_of_getElem? (i := 49) rfl)) (hw _ (List.mem_of_getElem? (i := 48) rfl)) (by decide) (by decide)) rfl (by rw [hml]; rfl) (lenOf pd_1 rfl) rfl (by show 2 * 0 + _ ≤ _; exact Nat.le_of_eq rfl) (hb hby d3_473) rfl e193 (by decide) (by decide) ?_
      intro v194 T194 Lc194 hQ194 X194
      obtain ⟨rfl, Nq194, e194⟩ := hQ194
      have N194 := Fr.app N190 Nq194
      refine Gl.go (fun _ hr => zXS_ifNo X194.here hx rfl (hb hby d3_476) rfl (XT.i0_lt_f (own_cu0 _)) (zXT_lload X194.here hx rfl (hb hby d3_479) rfl (zXT_lload X194.here hx rfl (hb hby d3_481) rfl hr))) ?_
      have zz195 : n0 ≤ h106.size := by omega
      refine gStaticN Gl.cl (y := (⟨"java/lang/Long", "compareUnsigned", "(JJ)I"⟩ : MethodName)) (argsL := [(.long (((0 : Int64) + (fS1 cn hi lo)) + (0 : Int64))), (.long ((0 : Int64) + (fS1 cn hi lo)))]) (rest := []) (mc := 0) (ms := 0) X194 hx hZ hown (mvT hZ (hw _ (List.mem_of_getElem? (i := 46) rfl))) (mvT hZ (hw _ (List.mem_of_getElem? (i := 47) rfl))) (mvT hZ (hw _ (List.mem_of_getElem? (i := 48) rfl))) (mvT hZ (hw _ (List.mem_of_getElem? (i := 49) rfl))) (by decide) (backOf (W := 0) (cum l Z a0 hw [] (((0 : Int64) + (fS1 cn hi lo)) + (0 : Int64)) ((0 : Int64) + (fS1 cn hi lo)) h106 n0 zz195 ) hZ (hw _ (List.mem_of_getElem? (i := 49) rfl)) (hw _ (List.mem_of_getElem? (i := 48) rfl)) (by decide) (by decide)) rfl (by rw [hml]; rfl) (lenOf pd_1 rfl) rfl (by show 2 * 0 + _ ≤ _; exact Nat.le_of_eq rfl) (hb hby d3_483) rfl e194 (by decide) (by decide) ?_
      intro v195 T195 Lc195 hQ195 X195
      obtain ⟨rfl, Nq195, e195⟩ := hQ195
      have N195 := Fr.app N194 Nq195
      refine Gl.go (fun _ hr => zXS_ifYes X195.here hx rfl (pc0 := 486) (pc' := 493) rfl (hb hby d3_486) rfl (XT.i0_ge_t (own_cuadd0 _)) (by decide) (by decide) (zXT_lconst X195.here hx rfl (hb hby d3_493) (zXT_lstore X195.here hx rfl (hb hby d3_494) rfl (l' := #[.val (.ref x), sJ cn, sS, sJ hi, sS, sJ lo, sS, sJ ex, sS, sJ (fMag cn), sS, sJ ((fMag cn) * lo), sS, sJ (fUMH (fMag cn) lo), sS, sJ (fP1 cn hi lo), sS, sJ (fP2 cn hi lo), sS, sJ 0, sS, sI 0, sI 0, sJ (fS0 cn lo), sS, sJ (fS1 cn hi lo), sS, sJ (fS2 cn hi lo), sS, sJ 0, sS, sJ (fS0 cn lo), sS, sJ (fS1 cn hi lo), sS, sJ (fS2 cn hi lo), sS, sJ 0, sS, sJ ((0 : Int64) + (fS0 cn lo)), sS, sJ 0, sS, sJ ((0 : Int64) + (fS1 cn hi lo)), sS, sJ (((0 : Int64) + (fS1 cn hi lo)) + (0 : Int64)), sS, sJ 0, sS, sU, sU, sU, sU, sU, sU, sU, sU]) rfl (zXS_aloadN X195.here hx rfl (hb hby d3_496) rfl rfl hr)))) ?_
      have Fc196 := (q5.other W106 (Or.inr (slot_ne (Or.inl (hw _ (List.mem_of_getElem? (i := 32) rfl))) (Or.inl (hw _ (List.mem_of_getElem? (i := 15) rfl))) (by decide) (t := .long) (t' := .long) (by decide) (by decide))))
      refine gGetF (host := "") Gl.cl X195 hx hZ hown (Or.inl (hw _ (List.mem_of_getElem? (i := 31) rfl))) Via.refl e195 Fc196 rfl rfl (hb hby d3_497) ?_
      intro T197 X197 e197
      refine Gl.go (fun _ hr => zXT_lload X197.here hx rfl (hb hby d3_500) rfl (zXT_ladd X197.here hx rfl (hb hby d3_502) rfl (zXT_lstore X197.here hx rfl (hb hby d3_503) rfl (l' := #[.val (.ref x), sJ cn, sS, sJ hi, sS, sJ lo, sS, sJ ex, sS, sJ (fMag cn), sS, sJ ((fMag cn) * lo), sS, sJ (fUMH (fMag cn) lo), sS, sJ (fP1 cn hi lo), sS, sJ (fP2 cn hi lo), sS, sJ 0, sS, sI 0, sI 0, sJ (fS0 cn lo), sS, sJ (fS1 cn hi lo), sS, sJ (fS2 cn hi lo), sS, sJ 0, sS, sJ (fS0 cn lo), sS, sJ (fS1 cn hi lo), sS, sJ (fS2 cn hi lo), sS, sJ 0, sS, sJ ((0 : Int64) + (fS0 cn lo)), sS, sJ 0, sS, sJ ((0 : Int64) + (fS1 cn hi lo)), sS, sJ (((0 : Int64) + (fS1 cn hi lo)) + (0 : Int64)), sS, sJ 0, sS, sJ ((0 : Int64) + (fS2 cn hi lo)), sS, sU, sU, sU, sU, sU, sU]) rfl (zXT_lload X197.here hx rfl (hb hby d3_505) rfl (zXT_lload X197.here hx rfl (hb hby d3_507) rfl (zXT_ladd X197.here hx rfl (hb hby d3_509) rfl (zXT_lstore X197.here hx rfl (hb hby d3_510) rfl (l' := #[.val (.ref x), sJ cn, sS, sJ hi, sS, sJ lo, sS, sJ ex, sS, sJ (fMag cn), sS, sJ ((fMag cn) * lo), sS, sJ (fUMH (fMag cn) lo), sS, sJ (fP1 cn hi lo), sS, sJ (fP2 cn hi lo), sS, sJ 0, sS, sI 0, sI 0, sJ (fS0 cn lo), sS, sJ (fS1 cn hi lo), sS, sJ (fS2 cn hi lo), sS, sJ 0, sS, sJ (fS0 cn lo), sS, sJ (fS1 cn hi lo), sS, sJ (fS2 cn hi lo), sS, sJ 0, sS, sJ ((0 : Int64) + (fS0 cn lo)), sS, sJ 0, sS, sJ ((0 : Int64) + (fS1 cn hi lo)), sS, sJ (((0 : Int64) + (fS1 cn hi lo)) + (0 : Int64)), sS, sJ 0, sS, sJ ((0 : Int64) + (fS2 cn hi lo)), sS, sJ (((0 : Int64) + (fS2 cn hi lo)) + (0 : Int64)), sS, sU, sU, sU, sU]) rfl (zXT_lload X197.here hx rfl (hb hby d3_512) rfl (zXS_aloadN X197.here hx rfl (hb hby d3_514) rfl rfl hr))))))))) ?_
      refine gGetF (host := "") Gl.cl X197 hx hZ hown (Or.inl (hw _ (List.mem_of_getElem? (i := 31) rfl))) Via.refl e197 Fc196 rfl rfl (hb hby d3_515) ?_
      intro T198 X198 e198
      have zz199 : n0 ≤ h106.size := by omega
      refine gStaticN Gl.cl (y := (⟨"java/lang/Long", "compareUnsigned", "(JJ)I"⟩ : MethodName)) (argsL := [(.long ((0 : Int64) + (fS2 cn hi lo))), (.long (0 : Int64))]) (rest := []) (mc := 0) (ms := 0) X198 hx hZ hown (mvT hZ (hw _ (List.mem_of_getElem? (i := 46) rfl))) (mvT hZ (hw _ (List.mem_of_getElem? (i := 47) rfl))) (mvT hZ (hw _ (List.mem_of_getElem? (i := 48) rfl))) (mvT hZ (hw _ (List.mem_of_getElem? (i := 49) rfl))) (by decide) (backOf (W := 0) (cum l Z a0 hw [] ((0 : Int64) + (fS2 cn hi lo)) (0 : Int64) h106 n0 zz199 ) hZ (hw _ (List.mem_of_getElem? (i := 49) rfl)) (hw _ (List.mem_of_getElem? (i := 48) rfl)) (by decide) (by decide)) rfl (by rw [hml]; rfl) (lenOf pd_1 rfl) rfl (by show 2 * 0 + _ ≤ _; exact Nat.le_of_eq rfl) (hb hby d3_518) rfl e198 (by decide) (by decide) ?_
      intro v199 T199 Lc199 hQ199 X199
      obtain ⟨rfl, Nq199, e199⟩ := hQ199
      have N199 := Fr.app N195 Nq199
      refine Gl.go (fun _ hr => zXS_ifNo X199.here hx rfl (hb hby d3_521) rfl (XT.i0_lt_f (own_cu0 _)) (zXT_lload X199.here hx rfl (hb hby d3_524) rfl (zXT_lload X199.here hx rfl (hb hby d3_526) rfl hr))) ?_
      have zz200 : n0 ≤ h106.size := by omega
      refine gStaticN Gl.cl (y := (⟨"java/lang/Long", "compareUnsigned", "(JJ)I"⟩ : MethodName)) (argsL := [(.long (((0 : Int64) + (fS2 cn hi lo)) + (0 : Int64))), (.long ((0 : Int64) + (fS2 cn hi lo)))]) (rest := []) (mc := 0) (ms := 0) X199 hx hZ hown (mvT hZ (hw _ (List.mem_of_getElem? (i := 46) rfl))) (mvT hZ (hw _ (List.mem_of_getElem? (i := 47) rfl))) (mvT hZ (hw _ (List.mem_of_getElem? (i := 48) rfl))) (mvT hZ (hw _ (List.mem_of_getElem? (i := 49) rfl))) (by decide) (backOf (W := 0) (cum l Z a0 hw [] (((0 : Int64) + (fS2 cn hi lo)) + (0 : Int64)) ((0 : Int64) + (fS2 cn hi lo)) h106 n0 zz200 ) hZ (hw _ (List.mem_of_getElem? (i := 49) rfl)) (hw _ (List.mem_of_getElem? (i := 48) rfl)) (by decide) (by decide)) rfl (by rw [hml]; rfl) (lenOf pd_1 rfl) rfl (by show 2 * 0 + _ ≤ _; exact Nat.le_of_eq rfl) (hb hby d3_528) rfl e199 (by decide) (by decide) ?_
      intro v200 T200 Lc200 hQ200 X200
      obtain ⟨rfl, Nq200, e200⟩ := hQ200
      have N200 := Fr.app N199 Nq200
      refine Gl.go (fun _ hr => zXS_ifYes X200.here hx rfl (pc0 := 531) (pc' := 538) rfl (hb hby d3_531) rfl (XT.i0_ge_t (own_cuadd0 _)) (by decide) (by decide) (zXT_lconst X200.here hx rfl (hb hby d3_538) (zXT_lstore X200.here hx rfl (hb hby d3_539) rfl (l' := #[.val (.ref x), sJ cn, sS, sJ hi, sS, sJ lo, sS, sJ ex, sS, sJ (fMag cn), sS, sJ ((fMag cn) * lo), sS, sJ (fUMH (fMag cn) lo), sS, sJ (fP1 cn hi lo), sS, sJ (fP2 cn hi lo), sS, sJ 0, sS, sI 0, sI 0, sJ (fS0 cn lo), sS, sJ (fS1 cn hi lo), sS, sJ (fS2 cn hi lo), sS, sJ 0, sS, sJ (fS0 cn lo), sS, sJ (fS1 cn hi lo), sS, sJ (fS2 cn hi lo), sS, sJ 0, sS, sJ ((0 : Int64) + (fS0 cn lo)), sS, sJ 0, sS, sJ ((0 : Int64) + (fS1 cn hi lo)), sS, sJ (((0 : Int64) + (fS1 cn hi lo)) + (0 : Int64)), sS, sJ 0, sS, sJ ((0 : Int64) + (fS2 cn hi lo)), sS, sJ (((0 : Int64) + (fS2 cn hi lo)) + (0 : Int64)), sS, sJ 0, sS, sU, sU]) rfl (zXS_aloadN X200.here hx rfl (hb hby d3_541) rfl rfl hr)))) ?_
      have Fc201 := (q6.other W106 (Or.inr (slot_ne (Or.inl (hw _ (List.mem_of_getElem? (i := 34) rfl))) (Or.inl (hw _ (List.mem_of_getElem? (i := 15) rfl))) (by decide) (t := .long) (t' := .long) (by decide) (by decide))))
      refine gGetF (host := "") Gl.cl X200 hx hZ hown (Or.inl (hw _ (List.mem_of_getElem? (i := 33) rfl))) Via.refl e200 Fc201 rfl rfl (hb hby d3_542) ?_
      intro T202 X202 e202
      refine Gl.go (fun _ hr => zXT_lload X202.here hx rfl (hb hby d3_545) rfl (zXT_ladd X202.here hx rfl (hb hby d3_547) rfl (zXT_lload X202.here hx rfl (hb hby d3_548) rfl (zXT_ladd X202.here hx rfl (hb hby d3_550) rfl (zXT_lstore X202.here hx rfl (hb hby d3_551) rfl (l' := #[.val (.ref x), sJ cn, sS, sJ hi, sS, sJ lo, sS, sJ ex, sS, sJ (fMag cn), sS, sJ ((fMag cn) * lo), sS, sJ (fUMH (fMag cn) lo), sS, sJ (fP1 cn hi lo), sS, sJ (fP2 cn hi lo), sS, sJ 0, sS, sI 0, sI 0, sJ (fS0 cn lo), sS, sJ (fS1 cn hi lo), sS, sJ (fS2 cn hi lo), sS, sJ 0, sS, sJ (fS0 cn lo), sS, sJ (fS1 cn hi lo), sS, sJ (fS2 cn hi lo), sS, sJ 0, sS, sJ ((0 : Int64) + (fS0 cn lo)), sS, sJ 0, sS, sJ ((0 : Int64) + (fS1 cn hi lo)), sS, sJ (((0 : Int64) + (fS1 cn hi lo)) + (0 : Int64)), sS, sJ 0, sS, sJ ((0 : Int64) + (fS2 cn hi lo)), sS, sJ (((0 : Int64) + (fS2 cn hi lo)) + (0 : Int64)), sS, sJ 0, sS, sJ 0, sS]) rfl (zXS_aloadN X202.here hx rfl (hb hby d3_553) rfl rfl hr)))))) ?_
      refine gGetF (host := "") Gl.cl X202 hx hZ hown (Or.inl (hw _ (List.mem_of_getElem? (i := 33) rfl))) Via.refl e202 Fc201 rfl rfl (hb hby d3_554) ?_
      intro T203 X203 e203
      refine Gl.go (fun _ hr => zXT_lload X203.here hx rfl (hb hby d3_557) rfl (zXT_lxor X203.here hx rfl (hb hby d3_559) rfl (zXT_lload X203.here hx rfl (hb hby d3_560) rfl (zXT_lload X203.here hx rfl (hb hby d3_562) rfl (zXT_lxor X203.here hx rfl (hb hby d3_564) rfl (zXT_land X203.here hx rfl (hb hby d3_565) rfl (zXT_lconst X203.here hx rfl (hb hby d3_566) (zXT_lcmp X203.here hx rfl (hb hby d3_567) rfl (zXS_ifYes X203.here hx rfl (pc0 := 568) (pc' := 581) rfl (hb hby d3_568) rfl (XT.ll_ge_t (by decide)) (by decide) (by decide) (zXS_aloadN X203.here hx rfl (hb hby d3_581) rfl rfl (zXT_lload X203.here hx rfl (hb hby d3_582) rfl hr))))))))))) ?_
      have Ec204 := (q0.wr W106)
      refine gPutF (host := "") Gl.cl X203 hx hZ hown (Or.inl (hw _ (List.mem_of_getElem? (i := 27) rfl))) Via.refl e203 Fc187 Ec204 (Or.inl (hw _ (List.mem_of_getElem? (i := 28) rfl))) (hw _ (List.mem_of_getElem? (i := 5) rfl)) (ty := .long) (by decide) rfl rfl rfl rfl (hb hby d3_584) ?_
      intro T205 h205 X205 e205 W205
      have z206 : h106.size ≤ h205.size := (Keep.of_wr W205).1
      have Fw205 := Fc187.same W205
      have N205 := Fr.snoc X205 N200 (own_ale (by omega))
      refine Gl.go (fun _ hr => zXS_aloadN X205.here hx rfl (hb hby d3_587) rfl rfl (zXT_lload X205.here hx rfl (hb hby d3_588) rfl hr)) ?_
      have Fc207 := (Fc191.other W205 (Or.inr (slot_ne (Or.inl (hw _ (List.mem_of_getElem? (i := 30) rfl))) (Or.inl (hw _ (List.mem_of_getElem? (i := 28) rfl))) (by decide) (t := .long) (t' := .long) (by decide) (by decide))))
      have Ec208 := (Ec204.wr W205)
      refine gPutF (host := "") Gl.cl X205 hx hZ hown (Or.inl (hw _ (List.mem_of_getElem? (i := 29) rfl))) Via.refl e205 Fc207 Ec208 (Or.inl (hw _ (List.mem_of_getElem? (i := 30) rfl))) (hw _ (List.mem_of_getElem? (i := 5) rfl)) (ty := .long) (by decide) rfl rfl rfl rfl (hb hby d3_590) ?_
      intro T209 h209 X209 e209 W209
      have z210 : h205.size ≤ h209.size := (Keep.of_wr W209).1
      have Fw209 := Fc207.same W209
      have N209 := Fr.snoc X209 N205 (own_ale (by omega))
      refine Gl.go (fun _ hr => zXS_aloadN X209.here hx rfl (hb hby d3_593) rfl rfl (zXT_lload X209.here hx rfl (hb hby d3_594) rfl hr)) ?_
      have Fc211 := ((Fc196.other W205 (Or.inr (slot_ne (Or.inl (hw _ (List.mem_of_getElem? (i := 32) rfl))) (Or.inl (hw _ (List.mem_of_getElem? (i := 28) rfl))) (by decide) (t := .long) (t' := .long) (by decide) (by decide)))).other W209 (Or.inr (slot_ne (Or.inl (hw _ (List.mem_of_getElem? (i := 32) rfl))) (Or.inl (hw _ (List.mem_of_getElem? (i := 30) rfl))) (by decide) (t := .long) (t' := .long) (by decide) (by decide))))
      have Ec212 := (Ec208.wr W209)
      refine gPutF (host := "") Gl.cl X209 hx hZ hown (Or.inl (hw _ (List.mem_of_getElem? (i := 31) rfl))) Via.refl e209 Fc211 Ec212 (Or.inl (hw _ (List.mem_of_getElem? (i := 32) rfl))) (hw _ (List.mem_of_getElem? (i := 5) rfl)) (ty := .long) (by decide) rfl rfl rfl rfl (hb hby d3_596) ?_
      intro T213 h213 X213 e213 W213
      have z214 : h209.size ≤ h213.size := (Keep.of_wr W213).1
      have Fw213 := Fc211.same W213
      have N213 := Fr.snoc X213 N209 (own_ale (by omega))
      refine Gl.go (fun _ hr => zXS_aloadN X213.here hx rfl (hb hby d3_599) rfl rfl (zXT_lload X213.here hx rfl (hb hby d3_600) rfl hr)) ?_
      have Fc215 := (((Fc201.other W205 (Or.inr (slot_ne (Or.inl (hw _ (List.mem_of_getElem? (i := 34) rfl))) (Or.inl (hw _ (List.mem_of_getElem? (i := 28) rfl))) (by decide) (t := .long) (t' := .long) (by decide) (by decide)))).other W209 (Or.inr (slot_ne (Or.inl (hw _ (List.mem_of_getElem? (i := 34) rfl))) (Or.inl (hw _ (List.mem_of_getElem? (i := 30) rfl))) (by decide) (t := .long) (t' := .long) (by decide) (by decide)))).other W213 (Or.inr (slot_ne (Or.inl (hw _ (List.mem_of_getElem? (i := 34) rfl))) (Or.inl (hw _ (List.mem_of_getElem? (i := 32) rfl))) (by decide) (t := .long) (t' := .long) (by decide) (by decide))))
      have Ec216 := (Ec212.wr W213)
      refine gPutF (host := "") Gl.cl X213 hx hZ hown (Or.inl (hw _ (List.mem_of_getElem? (i := 33) rfl))) Via.refl e213 Fc215 Ec216 (Or.inl (hw _ (List.mem_of_getElem? (i := 34) rfl))) (hw _ (List.mem_of_getElem? (i := 5) rfl)) (ty := .long) (by decide) rfl rfl rfl rfl (hb hby d3_602) ?_
      intro T217 h217 X217 e217 W217
      have z218 : h213.size ≤ h217.size := (Keep.of_wr W217).1
      have Fw217 := Fc215.same W217
      have N217 := Fr.snoc X217 N213 (own_ale (by omega))
      refine Gl.go (fun _ hr => zXS_aloadN X217.here hx rfl (hb hby d3_605) rfl rfl (zXS_iconst X217.here hx rfl (hb hby d3_606) hr)) ?_
      have Fc219 := (((((q7.other W106 (Or.inr (slot_ne (Or.inl (hw _ (List.mem_of_getElem? (i := 66) rfl))) (Or.inl (hw _ (List.mem_of_getElem? (i := 15) rfl))) (by decide) (t := .boolean) (t' := .long) (by decide) (by decide)))).other W205 (Or.inr (slot_ne (Or.inl (hw _ (List.mem_of_getElem? (i := 66) rfl))) (Or.inl (hw _ (List.mem_of_getElem? (i := 28) rfl))) (by decide) (t := .boolean) (t' := .long) (by decide) (by decide)))).other W209 (Or.inr (slot_ne (Or.inl (hw _ (List.mem_of_getElem? (i := 66) rfl))) (Or.inl (hw _ (List.mem_of_getElem? (i := 30) rfl))) (by decide) (t := .boolean) (t' := .long) (by decide) (by decide)))).other W213 (Or.inr (slot_ne (Or.inl (hw _ (List.mem_of_getElem? (i := 66) rfl))) (Or.inl (hw _ (List.mem_of_getElem? (i := 32) rfl))) (by decide) (t := .boolean) (t' := .long) (by decide) (by decide)))).other W217 (Or.inr (slot_ne (Or.inl (hw _ (List.mem_of_getElem? (i := 66) rfl))) (Or.inl (hw _ (List.mem_of_getElem? (i := 34) rfl))) (by decide) (t := .boolean) (t' := .long) (by decide) (by decide))))
      have Ec220 := (Ec216.wr W217)
      refine gPutF (host := "") Gl.cl X217 hx hZ hown (Or.inl (hw _ (List.mem_of_getElem? (i := 65) rfl))) Via.refl e217 Fc219 Ec220 (Or.inl (hw _ (List.mem_of_getElem? (i := 66) rfl))) (hw _ (List.mem_of_getElem? (i := 5) rfl)) (ty := .boolean) (by decide) rfl rfl rfl rfl (hb hby d3_607) ?_
      intro T221 h221 X221 e221 W221
      have z222 : h217.size ≤ h221.size := (Keep.of_wr W221).1
      have Fw221 := Fc219.same W221
      have N221 := Fr.snoc X221 N217 (own_ale (by omega))
      have Ec223 := (Ec220.wr W221)
      have Fc224 := (((((Fw106.other W205 (Or.inr (slot_ne (Or.inl (hw _ (List.mem_of_getElem? (i := 15) rfl))) (Or.inl (hw _ (List.mem_of_getElem? (i := 28) rfl))) (by decide) (t := .long) (t' := .long) (by decide) (by decide)))).other W209 (Or.inr (slot_ne (Or.inl (hw _ (List.mem_of_getElem? (i := 15) rfl))) (Or.inl (hw _ (List.mem_of_getElem? (i := 30) rfl))) (by decide) (t := .long) (t' := .long) (by decide) (by decide)))).other W213 (Or.inr (slot_ne (Or.inl (hw _ (List.mem_of_getElem? (i := 15) rfl))) (Or.inl (hw _ (List.mem_of_getElem? (i := 32) rfl))) (by decide) (t := .long) (t' := .long) (by decide) (by decide)))).other W217 (Or.inr (slot_ne (Or.inl (hw _ (List.mem_of_getElem? (i := 15) rfl))) (Or.inl (hw _ (List.mem_of_getElem? (i := 34) rfl))) (by decide) (t := .long) (t' := .long) (by decide) (by decide)))).other W221 (Or.inr (slot_ne (Or.inl (hw _ (List.mem_of_getElem? (i := 15) rfl))) (Or.inl (hw _ (List.mem_of_getElem? (i := 66) rfl))) (by decide) (t := .long) (t' := .boolean) (by decide) (by decide))))
      have Fc225 := ((((Fw205.other W209 (Or.inr (slot_ne (Or.inl (hw _ (List.mem_of_getElem? (i := 28) rfl))) (Or.inl (hw _ (List.mem_of_getElem? (i := 30) rfl))) (by decide) (t := .long) (t' := .long) (by decide) (by decide)))).other W213 (Or.inr (slot_ne (Or.inl (hw _ (List.mem_of_getElem? (i := 28) rfl))) (Or.inl (hw _ (List.mem_of_getElem? (i := 32) rfl))) (by decide) (t := .long) (t' := .long) (by decide) (by decide)))).other W217 (Or.inr (slot_ne (Or.inl (hw _ (List.mem_of_getElem? (i := 28) rfl))) (Or.inl (hw _ (List.mem_of_getElem? (i := 34) rfl))) (by decide) (t := .long) (t' := .long) (by decide) (by decide)))).other W221 (Or.inr (slot_ne (Or.inl (hw _ (List.mem_of_getElem? (i := 28) rfl))) (Or.inl (hw _ (List.mem_of_getElem? (i := 66) rfl))) (by decide) (t := .long) (t' := .boolean) (by decide) (by decide))))
      have Fc226 := (((Fw209.other W213 (Or.inr (slot_ne (Or.inl (hw _ (List.mem_of_getElem? (i := 30) rfl))) (Or.inl (hw _ (List.mem_of_getElem? (i := 32) rfl))) (by decide) (t := .long) (t' := .long) (by decide) (by decide)))).other W217 (Or.inr (slot_ne (Or.inl (hw _ (List.mem_of_getElem? (i := 30) rfl))) (Or.inl (hw _ (List.mem_of_getElem? (i := 34) rfl))) (by decide) (t := .long) (t' := .long) (by decide) (by decide)))).other W221 (Or.inr (slot_ne (Or.inl (hw _ (List.mem_of_getElem? (i := 30) rfl))) (Or.inl (hw _ (List.mem_of_getElem? (i := 66) rfl))) (by decide) (t := .long) (t' := .boolean) (by decide) (by decide))))
      have Fc227 := ((Fw213.other W217 (Or.inr (slot_ne (Or.inl (hw _ (List.mem_of_getElem? (i := 32) rfl))) (Or.inl (hw _ (List.mem_of_getElem? (i := 34) rfl))) (by decide) (t := .long) (t' := .long) (by decide) (by decide)))).other W221 (Or.inr (slot_ne (Or.inl (hw _ (List.mem_of_getElem? (i := 32) rfl))) (Or.inl (hw _ (List.mem_of_getElem? (i := 66) rfl))) (by decide) (t := .long) (t' := .boolean) (by decide) (by decide))))
      have Fc228 := (Fw217.other W221 (Or.inr (slot_ne (Or.inl (hw _ (List.mem_of_getElem? (i := 34) rfl))) (Or.inl (hw _ (List.mem_of_getElem? (i := 66) rfl))) (by decide) (t := .long) (t' := .boolean) (by decide) (by decide))))
      obtain ⟨fs, hr, hrun, hended, hW, hsame⟩ := X221.leave (v := none) (fun _ => rfl)
      refine ⟨_, _, X221.returnOut hx Bd.returns (hb hby d3_610) hr, hrun, hended, _, _, rfl, ?_, ⟨⟨_, rfl⟩, hW, hsame.mono (by decide) (by decide)⟩⟩
      show QaddA Z x cn hi lo ex h0 n0 _ T221.heap _
      rw [e221]
      exact ⟨((0 : Int64) + (fS0 cn lo)), (((0 : Int64) + (fS1 cn hi lo)) + (0 : Int64)), (((0 : Int64) + (fS2 cn hi lo)) + (0 : Int64)), (0 : Int64), rfl, N221, (((((((Keep.refl h0 [x]).wr W106 (Or.inl (by simp))).wr W205 (Or.inl (by simp))).wr W209 (Or.inl (by simp))).wr W213 (Or.inl (by simp))).wr W217 (Or.inl (by simp))).wr W221 (Or.inl (by simp))), Ec223, Fc224, Fc225, Fc226, Fc227, Fc228, Fw221, (by rw [fA, if_neg hE, if_neg hc136]), (Or.inl rfl)⟩
def QaddB0 (Z : State) (x : Addr) (cn : Int64) (pt : Int64) (l0 : Int64) (l1 : Int64) (l2 : Int64) (l3 : Int64) (h0 : Heap) (n0 : Nat) (v : Option Value) (h : Heap) (L : List Loc) : Prop := ∃ (m0 : Int64), ∃ (m1 : Int64), ∃ (m2 : Int64), ∃ (m3 : Int64), v = none ∧ Fr n0 L ∧ Keep h0 h [x] ∧ (Exa Z h x "com/example/evenkeel/evenkeel/share/FlooredSum") ∧ (Fld Z h x "com/example/evenkeel/evenkeel/share/FlooredSum" "point" "J" (.long pt)) ∧ (Fld Z h x "com/example/evenkeel/evenkeel/share/FlooredSum" "limb0" "J" (.long m0)) ∧ (Fld Z h x "com/example/evenkeel/evenkeel/share/FlooredSum" "limb1" "J" (.long m1)) ∧ (Fld Z h x "com/example/evenkeel/evenkeel/share/FlooredSum" "limb2" "J" (.long m2)) ∧ (Fld Z h x "com/example/evenkeel/evenkeel/share/FlooredSum" "limb3" "J" (.long m3)) ∧ (Fld Z h x "com/example/evenkeel/evenkeel/share/FlooredSum" "known" "Z" (.int (0 : Int32))) ∧ (¬ m0 = l0)
theorem ef_addB0 (m : MethodId) (x0 : Addr) (x1 : Int64) (x2 : Int64) (x3 : Int64) (x4 : Int64) : entryFrame m #[(.ref x0), (.long x1), (.long x2), (.long x3), (.long x4)] 57 = mkF m 0 #[.val (.ref x0), sJ x1, sS, sJ x2, sS, sJ x3, sS, sJ x4, sS, sU, sU, sU, sU, sU, sU, sU, sU, sU, sU, sU, sU, sU, sU, sU, sU, sU, sU, sU, sU, sU, sU, sU, sU, sU, sU, sU, sU, sU, sU, sU, sU, sU, sU, sU, sU, sU, sU, sU, sU, sU, sU, sU, sU, sU, sU, sU, sU] [] := by first | (simp [entryFrame, mkF, argsToLocals, Value.category]; done) | rfl
theorem d3_444 : decode prog_96_method_10_code 444 = .ok (.lconst 1, 1) := by decide +kernel
theorem d3_445 : decode prog_96_method_10_code 445 = .ok (.goto 4, 3) := by decide +kernel
theorem d3_489 : decode prog_96_method_10_code 489 = .ok (.lconst 1, 1) := by decide +kernel
theorem d3_490 : decode prog_96_method_10_code 490 = .ok (.goto 4, 3) := by decide +kernel
theorem d3_534 : decode prog_96_method_10_code 534 = .ok (.lconst 1, 1) := by decide +kernel
theorem d3_535 : decode prog_96_method_10_code 535 = .ok (.goto 4, 3) := by decide +kernel
set_option maxRecDepth 65536 in
set_option maxHeartbeats 40000000 in
theorem addB0 (l : Launch) (Z : State) (a0 : Array Value) (hw : ∀ d ∈ tables_1, d.before a0 Z = true) (ws : List Jvm.Cond) (x : Addr) (cn : Int64) (pt : Int64) (l0 : Int64) (l1 : Int64) (l2 : Int64) (l3 : Int64) (h0 : Heap) (n0 : Nat) (Z0 : n0 ≤ h0.size) (q0 : Exa Z h0 x "com/example/evenkeel/evenkeel/share/FlooredSum") (q1 : @LE.le Nat instLENat n0 x) (q2 : Fld Z h0 x "com/example/evenkeel/evenkeel/share/FlooredSum" "point" "J" (.long pt)) (q3 : Fld Z h0 x "com/example/evenkeel/evenkeel/share/FlooredSum" "limb0" "J" (.long l0)) (q4 : Fld Z h0 x "com/example/evenkeel/evenkeel/share/FlooredSum" "limb1" "J" (.long l1)) (q5 : Fld Z h0 x "com/example/evenkeel/evenkeel/share/FlooredSum" "limb2" "J" (.long l2)) (q6 : Fld Z h0 x "com/example/evenkeel/evenkeel/share/FlooredSum" "limb3" "J" (.long l3)) (q7 : Fld Z h0 x "com/example/evenkeel/evenkeel/share/FlooredSum" "known" "Z" (.int (0 : Int32))) (hpt : ¬ pt = (-9223372036854775808 : Int64)) (hl3 : l3 = 0 ∨ l3 = -1) (hd : ¬ cn = (0 : Int64)) (hm : 0 ≤ (fMag cn).toInt) (hpos : ¬ (fMag cn) = (0 : Int64)) (hneg : ¬ -(fMag cn) = (0 : Int64)) :
    MetFree l (⟨"com/example/evenkeel/evenkeel/share/FlooredSum", "add", "(JJJJ)V"⟩ : MethodName) (head1 (Jvm.Cond.code (⟨"com/example/evenkeel/evenkeel/share/FlooredSum", "add", "(JJJJ)V"⟩ : MethodName) prog_96_method_10_code 57 none :: ws) ({ frames := 2, cells := 0, slots := 0, locals := 50 } : Room)) (fun a_ U_ => a_ = #[(.ref x), (.long cn), (.long (0 : Int64)), (.long (1 : Int64)), (.long pt)] ∧ Z.Warmed39 U_.vm ∧ U_.heap = h0) (fun _ _ _ _ _ => True) (fun _ U_ o_ V_ => ∃ v_ L_, o_ = .returned v_ ∧ QaddB0 Z x cn pt l0 l1 l2 l3 h0 n0 v_ V_.heap L_ ∧ FrameEnd U_ o_ V_ L_ ({ frames := 2, cells := 0, slots := 0, locals := 50 } : Room).cells ({ frames := 2, cells := 0, slots := 0, locals := 50 } : Room).slots) := by
  refine MetFree.of_bodySF (plainFor_of_name pn_0) hisR ?_
  intro p e s m args below meth c s₁ Bd hml0 hP hK
  obtain ⟨rfl, hZ, hh⟩ := hP
  have hx := Bd.exec
  have hby := Bd.bytes
  have hml : c.maxLocals = 57 := hml0
  have hown : s.vm.findClass "com/example/evenkeel/evenkeel/share/FlooredSum" = some m.cls := findClass_of_methodNamed Bd.named
  have hnm := (name_of_methodNamed Bd.named Bd.method).1
  have X0 : Stand p l e ({ frames := 2, cells := 0, slots := 0, locals := 50 } : Room) s m #[(.ref x), (.long cn), (.long (0 : Int64)), (.long (1 : Int64)), (.long pt)] below meth c s₁ [] 0 0 := Stand.of_body Bd
  have e0 : s₁.heap = h0 := by rw [← hh, Bd.state]; rfl
  have N0 := Fr.nil n0
  have lt229 := own_alt q0.lt
  have lt230 := own_alt q2.lt
  have lt231 := own_alt q3.lt
  have lt232 := own_alt q4.lt
  have lt233 := own_alt q5.lt
  have lt234 := own_alt q6.lt
  have lt235 := own_alt q7.lt
  refine Gl.go (A := s₁.setTop (entryFrame m #[(.ref x), (.long cn), (.long (0 : Int64)), (.long (1 : Int64)), (.long pt)] 57)) (P := fun o_ U_ => ∃ v_ L_, o_ = .returned v_ ∧ QaddB0 Z x cn pt l0 l1 l2 l3 h0 n0 v_ U_.heap L_ ∧ FrameEnd s o_ U_ L_ ({ frames := 2, cells := 0, slots := 0, locals := 50 } : Room).cells ({ frames := 2, cells := 0, slots := 0, locals := 50 } : Room).slots) (fun t_ k_ => castTop (ef_addB0 m x cn (0 : Int64) (1 : Int64) pt) k_) ?_
  show Gl p.tables e below _ (s₁.setTop (mkF m 0 #[.val (.ref x), sJ cn, sS, sJ 0, sS, sJ 1, sS, sJ pt, sS, sU, sU, sU, sU, sU, sU, sU, sU, sU, sU, sU, sU, sU, sU, sU, sU, sU, sU, sU, sU, sU, sU, sU, sU, sU, sU, sU, sU, sU, sU, sU, sU, sU, sU, sU, sU, sU, sU, sU, sU, sU, sU, sU, sU, sU, sU, sU, sU] []))
  refine Gl.go (fun _ hr => zXS_aloadN X0.here hx rfl (hb hby d3_0) rfl rfl hr) ?_
  refine gGetF (host := "") Gl.cl X0 hx hZ hown (Or.inl (hw _ (List.mem_of_getElem? (i := 14) rfl))) Via.refl e0 q2 rfl rfl (hb hby d3_1) ?_
  intro T236 X236 e236
  refine Gl.go (X236.ldc2Long hx hown (mvT hZ (hw _ (List.mem_of_getElem? (i := 13) rfl))) rfl (hb hby d3_4)) ?_
  refine Gl.go (fun _ hr => zXT_lcmp X236.here hx rfl (hb hby d3_7) rfl hr) ?_
  refine Gl.go (fun _ hr => zXS_ifYes X236.here hx rfl (pc0 := 8) (pc' := 17) rfl (hb hby d3_8) rfl (XT.ll_ne_t hpt) (by decide) (by decide) (zXT_lload X236.here hx rfl (hb hby d3_17) rfl (zXS_aloadN X236.here hx rfl (hb hby d3_19) rfl rfl hr))) ?_
  refine gGetF (host := "") Gl.cl X236 hx hZ hown (Or.inl (hw _ (List.mem_of_getElem? (i := 14) rfl))) Via.refl e236 q2 rfl rfl (hb hby d3_20) ?_
  intro T237 X237 e237
  refine Gl.go (fun _ hr => zXT_lcmp X237.here hx rfl (hb hby d3_23) rfl hr) ?_
  refine Gl.go (fun _ hr => zXS_ifYes X237.here hx rfl (pc0 := 24) (pc' := 46) rfl (hb hby d3_24) rfl (XT.ll_ge_t (own_irrJ _)) (by decide) (by decide) (zXT_lloadN X237.here hx rfl (hb hby d3_46) rfl (zXT_lconst X237.here hx rfl (hb hby d3_47) (zXT_lcmp X237.here hx rfl (hb hby d3_48) rfl hr)))) ?_
  refine Gl.go (fun _ hr => zXS_ifNo X237.here hx rfl (hb hby d3_49) rfl (XT.ll_eq_f hd) (zXT_lloadN X237.here hx rfl (hb hby d3_52) rfl (zXT_lconst X237.here hx rfl (hb hby d3_53) (zXT_lcmp X237.here hx rfl (hb hby d3_54) rfl (zXS_ifNo X237.here hx rfl (hb hby d3_55) rfl (XT.ll_ne_f (by decide)) (zXT_lload X237.here hx rfl (hb hby d3_58) rfl (zXT_lconst X237.here hx rfl (hb hby d3_60) (zXT_lcmp X237.here hx rfl (hb hby d3_61) rfl (zXS_ifYes X237.here hx rfl (pc0 := 62) (pc' := 66) rfl (hb hby d3_62) rfl (XT.ll_ne_t (by decide)) (by decide) (by decide) (zXT_lloadN X237.here hx rfl (hb hby d3_66) rfl hr)))))))))) ?_
  have zz238 : n0 ≤ h0.size := by omega
  refine gStaticN Gl.cl (y := (⟨"java/lang/Math", "abs", "(J)J"⟩ : MethodName)) (argsL := [(.long cn)]) (rest := []) (mc := 0) (ms := 0) X237 hx hZ hown (mvT hZ (hw _ (List.mem_of_getElem? (i := 35) rfl))) (mvT hZ (hw _ (List.mem_of_getElem? (i := 36) rfl))) (mvT hZ (hw _ (List.mem_of_getElem? (i := 37) rfl))) (mvT hZ (hw _ (List.mem_of_getElem? (i := 38) rfl))) (by decide) (backOf (W := 0) (absm l Z a0 hw [] cn h0 n0 zz238 ) hZ (hw _ (List.mem_of_getElem? (i := 38) rfl)) (hw _ (List.mem_of_getElem? (i := 37) rfl)) (by decide) (by decide)) rfl (by rw [hml]; rfl) (lenOf pd_3 rfl) rfl (by show 2 * 0 + _ ≤ _; exact Nat.le_of_eq rfl) (hb hby d3_67) rfl e237 (by decide) (by decide) ?_
  intro v238 T238 Lc238 hQ238 X238
  obtain ⟨rfl, Nq238, e238⟩ := hQ238
  have N238 := Fr.app N0 Nq238
  refine Gl.go (fun _ hr => zXT_lstore X238.here hx rfl (hb hby d3_70) rfl (l' := #[.val (.ref x), sJ cn, sS, sJ 0, sS, sJ 1, sS, sJ pt, sS, sJ (fMag cn), sS, sU, sU, sU, sU, sU, sU, sU, sU, sU, sU, sU, sU, sU, sU, sU, sU, sU, sU, sU, sU, sU, sU, sU, sU, sU, sU, sU, sU, sU, sU, sU, sU, sU, sU, sU, sU, sU, sU, sU, sU, sU, sU, sU, sU, sU, sU]) rfl (zXT_lload X238.here hx rfl (hb hby d3_72) rfl (zXT_lload X238.here hx rfl (hb hby d3_74) rfl (zXT_lmul X238.here hx rfl (hb hby d3_76) rfl hr)))) ?_
  show Gl p.tables e below _ (T238.setTop (mkF m 77 #[.val (.ref x), sJ cn, sS, sJ 0, sS, sJ 1, sS, sJ pt, sS, sJ (fMag cn), sS, sU, sU, sU, sU, sU, sU, sU, sU, sU, sU, sU, sU, sU, sU, sU, sU, sU, sU, sU, sU, sU, sU, sU, sU, sU, sU, sU, sU, sU, sU, sU, sU, sU, sU, sU, sU, sU, sU, sU, sU, sU, sU, sU, sU, sU, sU] [(.long ((fMag cn) * (1 : Int64)))]))
  rw [Int64.mul_one]
  show Gl p.tables e below _ (T238.setTop (mkF m 77 #[.val (.ref x), sJ cn, sS, sJ 0, sS, sJ 1, sS, sJ pt, sS, sJ (fMag cn), sS, sU, sU, sU, sU, sU, sU, sU, sU, sU, sU, sU, sU, sU, sU, sU, sU, sU, sU, sU, sU, sU, sU, sU, sU, sU, sU, sU, sU, sU, sU, sU, sU, sU, sU, sU, sU, sU, sU, sU, sU, sU, sU, sU, sU, sU, sU] [(.long (fMag cn))]))
  refine Gl.go (fun _ hr => zXT_lstore X238.here hx rfl (hb hby d3_77) rfl (l' := #[.val (.ref x), sJ cn, sS, sJ 0, sS, sJ 1, sS, sJ pt, sS, sJ (fMag cn), sS, sJ (fMag cn), sS, sU, sU, sU, sU, sU, sU, sU, sU, sU, sU, sU, sU, sU, sU, sU, sU, sU, sU, sU, sU, sU, sU, sU, sU, sU, sU, sU, sU, sU, sU, sU, sU, sU, sU, sU, sU, sU, sU, sU, sU, sU, sU, sU, sU]) rfl (zXT_lload X238.here hx rfl (hb hby d3_79) rfl (zXT_lload X238.here hx rfl (hb hby d3_81) rfl hr))) ?_
  have zz239 : n0 ≤ h0.size := by omega
  refine gStaticN Gl.cl (y := (⟨"com/example/evenkeel/evenkeel/share/FlooredSum", "unsignedMultiplyHigh", "(JJ)J"⟩ : MethodName)) (argsL := [(.long (fMag cn)), (.long (1 : Int64))]) (rest := []) (mc := 0) (ms := 0) X238 hx hZ hown (mvT hZ (hw _ (List.mem_of_getElem? (i := 39) rfl))) (mvT hZ (hw _ (List.mem_of_getElem? (i := 40) rfl))) (mvT hZ (hw _ (List.mem_of_getElem? (i := 6) rfl))) (mvT hZ (hw _ (List.mem_of_getElem? (i := 41) rfl))) (by decide) (backOf (W := 0) (umh l Z a0 hw [] (fMag cn) (1 : Int64) h0 n0 zz239 ) hZ (hw _ (List.mem_of_getElem? (i := 41) rfl)) (hw _ (List.mem_of_getElem? (i := 6) rfl)) (by decide) (by decide)) rfl (by rw [hml]; rfl) (lenOf pd_0 rfl) rfl (by show 2 * 0 + _ ≤ _; exact Nat.le_of_eq rfl) (hb hby d3_83) rfl e238 (by decide) (by decide) ?_
  intro v239 T239 Lc239 hQ239 X239
  obtain ⟨rfl, Nq239, e239⟩ := hQ239
  have N239 := Fr.app N238 Nq239
  show Gl p.tables e below _ (T239.setTop (mkF m 86 #[.val (.ref x), sJ cn, sS, sJ 0, sS, sJ 1, sS, sJ pt, sS, sJ (fMag cn), sS, sJ (fMag cn), sS, sU, sU, sU, sU, sU, sU, sU, sU, sU, sU, sU, sU, sU, sU, sU, sU, sU, sU, sU, sU, sU, sU, sU, sU, sU, sU, sU, sU, sU, sU, sU, sU, sU, sU, sU, sU, sU, sU, sU, sU, sU, sU, sU, sU] [(.long (fUMH (fMag cn) (1 : Int64)))]))
  rw [own_umh1 hm]
  show Gl p.tables e below _ (T239.setTop (mkF m 86 #[.val (.ref x), sJ cn, sS, sJ 0, sS, sJ 1, sS, sJ pt, sS, sJ (fMag cn), sS, sJ (fMag cn), sS, sU, sU, sU, sU, sU, sU, sU, sU, sU, sU, sU, sU, sU, sU, sU, sU, sU, sU, sU, sU, sU, sU, sU, sU, sU, sU, sU, sU, sU, sU, sU, sU, sU, sU, sU, sU, sU, sU, sU, sU, sU, sU, sU, sU] [(.long (0 : Int64))]))
  refine Gl.go (fun _ hr => zXT_lstore X239.here hx rfl (hb hby d3_86) rfl (l' := #[.val (.ref x), sJ cn, sS, sJ 0, sS, sJ 1, sS, sJ pt, sS, sJ (fMag cn), sS, sJ (fMag cn), sS, sJ 0, sS, sU, sU, sU, sU, sU, sU, sU, sU, sU, sU, sU, sU, sU, sU, sU, sU, sU, sU, sU, sU, sU, sU, sU, sU, sU, sU, sU, sU, sU, sU, sU, sU, sU, sU, sU, sU, sU, sU, sU, sU, sU, sU]) rfl (zXT_lload X239.here hx rfl (hb hby d3_88) rfl (zXT_lload X239.here hx rfl (hb hby d3_90) rfl (zXT_lloadN X239.here hx rfl (hb hby d3_92) rfl (zXT_lmul X239.here hx rfl (hb hby d3_93) rfl hr))))) ?_
  show Gl p.tables e below _ (T239.setTop (mkF m 94 #[.val (.ref x), sJ cn, sS, sJ 0, sS, sJ 1, sS, sJ pt, sS, sJ (fMag cn), sS, sJ (fMag cn), sS, sJ 0, sS, sU, sU, sU, sU, sU, sU, sU, sU, sU, sU, sU, sU, sU, sU, sU, sU, sU, sU, sU, sU, sU, sU, sU, sU, sU, sU, sU, sU, sU, sU, sU, sU, sU, sU, sU, sU, sU, sU, sU, sU, sU, sU] [(.long ((fMag cn) * (0 : Int64))), (.long (0 : Int64))]))
  rw [Int64.mul_zero]
  show Gl p.tables e below _ (T239.setTop (mkF m 94 #[.val (.ref x), sJ cn, sS, sJ 0, sS, sJ 1, sS, sJ pt, sS, sJ (fMag cn), sS, sJ (fMag cn), sS, sJ 0, sS, sU, sU, sU, sU, sU, sU, sU, sU, sU, sU, sU, sU, sU, sU, sU, sU, sU, sU, sU, sU, sU, sU, sU, sU, sU, sU, sU, sU, sU, sU, sU, sU, sU, sU, sU, sU, sU, sU, sU, sU, sU, sU] [(.long (0 : Int64)), (.long (0 : Int64))]))
  refine Gl.go (fun _ hr => zXT_ladd X239.here hx rfl (hb hby d3_94) rfl (zXT_lstore X239.here hx rfl (hb hby d3_95) rfl (l' := #[.val (.ref x), sJ cn, sS, sJ 0, sS, sJ 1, sS, sJ pt, sS, sJ (fMag cn), sS, sJ (fMag cn), sS, sJ 0, sS, sJ 0, sS, sU, sU, sU, sU, sU, sU, sU, sU, sU, sU, sU, sU, sU, sU, sU, sU, sU, sU, sU, sU, sU, sU, sU, sU, sU, sU, sU, sU, sU, sU, sU, sU, sU, sU, sU, sU, sU, sU, sU, sU]) rfl (zXT_lload X239.here hx rfl (hb hby d3_97) rfl (zXT_lloadN X239.here hx rfl (hb hby d3_99) rfl hr)))) ?_
  have zz240 : n0 ≤ h0.size := by omega
  refine gStaticN Gl.cl (y := (⟨"java/lang/Math", "multiplyHigh", "(JJ)J"⟩ : MethodName)) (argsL := [(.long (fMag cn)), (.long (0 : Int64))]) (rest := []) (mc := 0) (ms := 0) X239 hx hZ hown (mvT hZ (hw _ (List.mem_of_getElem? (i := 42) rfl))) (mvT hZ (hw _ (List.mem_of_getElem? (i := 43) rfl))) (mvT hZ (hw _ (List.mem_of_getElem? (i := 37) rfl))) (mvT hZ (hw _ (List.mem_of_getElem? (i := 44) rfl))) (by decide) (backOf (W := 0) (mhm l Z a0 hw [] (fMag cn) (0 : Int64) h0 n0 zz240 ) hZ (hw _ (List.mem_of_getElem? (i := 44) rfl)) (hw _ (List.mem_of_getElem? (i := 37) rfl)) (by decide) (by decide)) rfl (by rw [hml]; rfl) (lenOf pd_0 rfl) rfl (by show 2 * 0 + _ ≤ _; exact Nat.le_of_eq rfl) (hb hby d3_100) rfl e239 (by decide) (by decide) ?_
  intro v240 T240 Lc240 hQ240 X240
  obtain ⟨rfl, Nq240, e240⟩ := hQ240
  have N240 := Fr.app N239 Nq240
  show Gl p.tables e below _ (T240.setTop (mkF m 103 #[.val (.ref x), sJ cn, sS, sJ 0, sS, sJ 1, sS, sJ pt, sS, sJ (fMag cn), sS, sJ (fMag cn), sS, sJ 0, sS, sJ 0, sS, sU, sU, sU, sU, sU, sU, sU, sU, sU, sU, sU, sU, sU, sU, sU, sU, sU, sU, sU, sU, sU, sU, sU, sU, sU, sU, sU, sU, sU, sU, sU, sU, sU, sU, sU, sU, sU, sU, sU, sU] [(.long (fMH (fMag cn) (0 : Int64)))]))
  rw [own_mh0]
  show Gl p.tables e below _ (T240.setTop (mkF m 103 #[.val (.ref x), sJ cn, sS, sJ 0, sS, sJ 1, sS, sJ pt, sS, sJ (fMag cn), sS, sJ (fMag cn), sS, sJ 0, sS, sJ 0, sS, sU, sU, sU, sU, sU, sU, sU, sU, sU, sU, sU, sU, sU, sU, sU, sU, sU, sU, sU, sU, sU, sU, sU, sU, sU, sU, sU, sU, sU, sU, sU, sU, sU, sU, sU, sU, sU, sU, sU, sU] [(.long (0 : Int64))]))
  refine Gl.go (fun _ hr => zXT_lload X240.here hx rfl (hb hby d3_103) rfl (zXT_lload X240.here hx rfl (hb hby d3_105) rfl hr)) ?_
  have zz241 : n0 ≤ h0.size := by omega
  refine gStaticN Gl.cl (y := (⟨"java/lang/Long", "compareUnsigned", "(JJ)I"⟩ : MethodName)) (argsL := [(.long (0 : Int64)), (.long (0 : Int64))]) (rest := [(.long (0 : Int64))]) (mc := 0) (ms := 0) X240 hx hZ hown (mvT hZ (hw _ (List.mem_of_getElem? (i := 46) rfl))) (mvT hZ (hw _ (List.mem_of_getElem? (i := 47) rfl))) (mvT hZ (hw _ (List.mem_of_getElem? (i := 48) rfl))) (mvT hZ (hw _ (List.mem_of_getElem? (i := 49) rfl))) (by decide) (backOf (W := 2) (cum l Z a0 hw [] (0 : Int64) (0 : Int64) h0 n0 zz241 ) hZ (hw _ (List.mem_of_getElem? (i := 49) rfl)) (hw _ (List.mem_of_getElem? (i := 48) rfl)) (by decide) (by decide)) rfl (by rw [hml]; rfl) (lenOf pd_1 rfl) rfl (by show 2 * 0 + _ ≤ _; exact Nat.le_of_eq rfl) (hb hby d3_107) rfl e240 (by decide) (by decide) ?_
  intro v241 T241 Lc241 hQ241 X241
  obtain ⟨rfl, Nq241, e241⟩ := hQ241
  have N241 := Fr.app N240 Nq241
  refine Gl.go (fun _ hr => zXS_ifYes X241.here hx rfl (pc0 := 110) (pc' := 117) rfl (hb hby d3_110) rfl (XT.i0_ge_t (own_cu0 _)) (by decide) (by decide) (zXS_iconst X241.here hx rfl (hb hby d3_117) (zXT_i2l X241.here hx rfl (hb hby d3_118) rfl (zXT_ladd X241.here hx rfl (hb hby d3_119) rfl (zXT_lstore X241.here hx rfl (hb hby d3_120) rfl (l' := #[.val (.ref x), sJ cn, sS, sJ 0, sS, sJ 1, sS, sJ pt, sS, sJ (fMag cn), sS, sJ (fMag cn), sS, sJ 0, sS, sJ 0, sS, sJ 0, sS, sU, sU, sU, sU, sU, sU, sU, sU, sU, sU, sU, sU, sU, sU, sU, sU, sU, sU, sU, sU, sU, sU, sU, sU, sU, sU, sU, sU, sU, sU, sU, sU, sU, sU, sU, sU, sU, sU]) rfl (zXT_lload X241.here hx rfl (hb hby d3_122) rfl (zXS_aloadN X241.here hx rfl (hb hby d3_124) rfl rfl hr))))))) ?_
  refine gGetF (host := "") Gl.cl X241 hx hZ hown (Or.inl (hw _ (List.mem_of_getElem? (i := 14) rfl))) Via.refl e241 q2 rfl rfl (hb hby d3_125) ?_
  intro T242 X242 e242
  refine Gl.go (fun _ hr => zXT_lsub X242.here hx rfl (hb hby d3_128) rfl hr) ?_
  show Gl p.tables e below _ (T242.setTop (mkF m 129 #[.val (.ref x), sJ cn, sS, sJ 0, sS, sJ 1, sS, sJ pt, sS, sJ (fMag cn), sS, sJ (fMag cn), sS, sJ 0, sS, sJ 0, sS, sJ 0, sS, sU, sU, sU, sU, sU, sU, sU, sU, sU, sU, sU, sU, sU, sU, sU, sU, sU, sU, sU, sU, sU, sU, sU, sU, sU, sU, sU, sU, sU, sU, sU, sU, sU, sU, sU, sU, sU, sU] [(.long (pt - pt))]))
  rw [Int64.sub_self]
  show Gl p.tables e below _ (T242.setTop (mkF m 129 #[.val (.ref x), sJ cn, sS, sJ 0, sS, sJ 1, sS, sJ pt, sS, sJ (fMag cn), sS, sJ (fMag cn), sS, sJ 0, sS, sJ 0, sS, sJ 0, sS, sU, sU, sU, sU, sU, sU, sU, sU, sU, sU, sU, sU, sU, sU, sU, sU, sU, sU, sU, sU, sU, sU, sU, sU, sU, sU, sU, sU, sU, sU, sU, sU, sU, sU, sU, sU, sU, sU] [(.long (0 : Int64))]))
  refine Gl.go (fun _ hr => zXT_lstore X242.here hx rfl (hb hby d3_129) rfl (l' := #[.val (.ref x), sJ cn, sS, sJ 0, sS, sJ 1, sS, sJ pt, sS, sJ (fMag cn), sS, sJ (fMag cn), sS, sJ 0, sS, sJ 0, sS, sJ 0, sS, sJ 0, sS, sU, sU, sU, sU, sU, sU, sU, sU, sU, sU, sU, sU, sU, sU, sU, sU, sU, sU, sU, sU, sU, sU, sU, sU, sU, sU, sU, sU, sU, sU, sU, sU, sU, sU, sU, sU]) rfl (zXT_lload X242.here hx rfl (hb hby d3_131) rfl (zXS_sipush X242.here hx rfl (hb hby d3_133) (zXS_sipush X242.here hx rfl (hb hby d3_136) (zXT_lload X242.here hx rfl (hb hby d3_139) rfl hr))))) ?_
  have zz243 : n0 ≤ h0.size := by omega
  refine gStaticN Gl.cl (y := (⟨"java/lang/Long", "numberOfLeadingZeros", "(J)I"⟩ : MethodName)) (argsL := [(.long (0 : Int64))]) (rest := [(.int (192 : Int32)), (.int (255 : Int32)), (.long (0 : Int64))]) (mc := 0) (ms := 0) X242 hx hZ hown (mvT hZ (hw _ (List.mem_of_getElem? (i := 54) rfl))) (mvT hZ (hw _ (List.mem_of_getElem? (i := 55) rfl))) (mvT hZ (hw _ (List.mem_of_getElem? (i := 48) rfl))) (mvT hZ (hw _ (List.mem_of_getElem? (i := 56) rfl))) (by decide) (backOf (W := 4) (nlzj0 l Z a0 hw []  h0 n0 zz243 ) hZ (hw _ (List.mem_of_getElem? (i := 56) rfl)) (hw _ (List.mem_of_getElem? (i := 48) rfl)) (by decide) (by decide)) rfl (by rw [hml]; rfl) (lenOf pd_4 rfl) rfl (by show 2 * 0 + _ ≤ _; exact Nat.le_of_eq rfl) (hb hby d3_141) rfl e242 (by decide) (by decide) ?_
  intro v243 T243 Lc243 hQ243 X243
  obtain ⟨rfl, Nq243, e243⟩ := hQ243
  have N243 := Fr.app N241 Nq243
  refine Gl.go (fun _ hr => zXS_isub X243.here hx rfl (hb hby d3_144) rfl (zXS_isub X243.here hx rfl (hb hby d3_145) rfl (zXT_i2l X243.here hx rfl (hb hby d3_146) rfl (zXT_lcmp X243.here hx rfl (hb hby d3_147) rfl (zXS_ifYes X243.here hx rfl (pc0 := 148) (pc' := 161) rfl (hb hby d3_148) rfl (XT.ll_le_t (by decide)) (by decide) (by decide) (zXT_lload X243.here hx rfl (hb hby d3_161) rfl (zXS_bipush X243.here hx rfl (hb hby d3_163) (zXT_lushr X243.here hx rfl (hb hby d3_165) rfl (zXT_l2i X243.here hx rfl (hb hby d3_166) rfl (zXS_istore X243.here hx rfl (hb hby d3_167) rfl (l' := #[.val (.ref x), sJ cn, sS, sJ 0, sS, sJ 1, sS, sJ pt, sS, sJ (fMag cn), sS, sJ (fMag cn), sS, sJ 0, sS, sJ 0, sS, sJ 0, sS, sJ 0, sS, sI 0, sU, sU, sU, sU, sU, sU, sU, sU, sU, sU, sU, sU, sU, sU, sU, sU, sU, sU, sU, sU, sU, sU, sU, sU, sU, sU, sU, sU, sU, sU, sU, sU, sU, sU, sU]) rfl (zXT_lload X243.here hx rfl (hb hby d3_169) rfl hr))))))))))) ?_
  refine Gl.go (X243.ldc2Long hx hown (mvT hZ (hw _ (List.mem_of_getElem? (i := 61) rfl))) rfl (hb hby d3_171)) ?_
  refine Gl.go (fun _ hr => zXT_land X243.here hx rfl (hb hby d3_174) rfl (zXT_l2i X243.here hx rfl (hb hby d3_175) rfl (zXS_istore X243.here hx rfl (hb hby d3_176) rfl (l' := #[.val (.ref x), sJ cn, sS, sJ 0, sS, sJ 1, sS, sJ pt, sS, sJ (fMag cn), sS, sJ (fMag cn), sS, sJ 0, sS, sJ 0, sS, sJ 0, sS, sJ 0, sS, sI 0, sI 0, sU, sU, sU, sU, sU, sU, sU, sU, sU, sU, sU, sU, sU, sU, sU, sU, sU, sU, sU, sU, sU, sU, sU, sU, sU, sU, sU, sU, sU, sU, sU, sU, sU, sU]) rfl (zXT_lload X243.here hx rfl (hb hby d3_178) rfl (zXS_iload X243.here hx rfl (hb hby d3_180) rfl (zXT_lshl X243.here hx rfl (hb hby d3_182) rfl hr)))))) ?_
  show Gl p.tables e below _ (T243.setTop (mkF m 183 #[.val (.ref x), sJ cn, sS, sJ 0, sS, sJ 1, sS, sJ pt, sS, sJ (fMag cn), sS, sJ (fMag cn), sS, sJ 0, sS, sJ 0, sS, sJ 0, sS, sJ 0, sS, sI 0, sI 0, sU, sU, sU, sU, sU, sU, sU, sU, sU, sU, sU, sU, sU, sU, sU, sU, sU, sU, sU, sU, sU, sU, sU, sU, sU, sU, sU, sU, sU, sU, sU, sU, sU, sU] [(.long ((fMag cn) <<< ((0 : Int32).toInt64 &&& 63)))]))
  rw [own_shl0]
  show Gl p.tables e below _ (T243.setTop (mkF m 183 #[.val (.ref x), sJ cn, sS, sJ 0, sS, sJ 1, sS, sJ pt, sS, sJ (fMag cn), sS, sJ (fMag cn), sS, sJ 0, sS, sJ 0, sS, sJ 0, sS, sJ 0, sS, sI 0, sI 0, sU, sU, sU, sU, sU, sU, sU, sU, sU, sU, sU, sU, sU, sU, sU, sU, sU, sU, sU, sU, sU, sU, sU, sU, sU, sU, sU, sU, sU, sU, sU, sU, sU, sU] [(.long (fMag cn))]))
  refine Gl.go (fun _ hr => zXT_lstore X243.here hx rfl (hb hby d3_183) rfl (l' := #[.val (.ref x), sJ cn, sS, sJ 0, sS, sJ 1, sS, sJ pt, sS, sJ (fMag cn), sS, sJ (fMag cn), sS, sJ 0, sS, sJ 0, sS, sJ 0, sS, sJ 0, sS, sI 0, sI 0, sJ (fMag cn), sS, sU, sU, sU, sU, sU, sU, sU, sU, sU, sU, sU, sU, sU, sU, sU, sU, sU, sU, sU, sU, sU, sU, sU, sU, sU, sU, sU, sU, sU, sU, sU, sU]) rfl (zXT_lload X243.here hx rfl (hb hby d3_185) rfl (zXS_iload X243.here hx rfl (hb hby d3_187) rfl (zXT_lshl X243.here hx rfl (hb hby d3_189) rfl (zXS_iload X243.here hx rfl (hb hby d3_190) rfl (zXS_ifNo X243.here hx rfl (hb hby d3_192) rfl (XT.i0_ne_f (by decide)) (zXT_lconst X243.here hx rfl (hb hby d3_195) (zXS_goto X243.here hx rfl (pc0 := 196) (pc' := 207) rfl (hb hby d3_196) (by decide) (by decide) (zXT_lor X243.here hx rfl (hb hby d3_207) rfl (zXT_lstore X243.here hx rfl (hb hby d3_208) rfl (l' := #[.val (.ref x), sJ cn, sS, sJ 0, sS, sJ 1, sS, sJ pt, sS, sJ (fMag cn), sS, sJ (fMag cn), sS, sJ 0, sS, sJ 0, sS, sJ 0, sS, sJ 0, sS, sI 0, sI 0, sJ (fMag cn), sS, sJ 0, sS, sU, sU, sU, sU, sU, sU, sU, sU, sU, sU, sU, sU, sU, sU, sU, sU, sU, sU, sU, sU, sU, sU, sU, sU, sU, sU, sU, sU, sU, sU]) rfl (zXT_lload X243.here hx rfl (hb hby d3_210) rfl (zXS_iload X243.here hx rfl (hb hby d3_212) rfl (zXT_lshl X243.here hx rfl (hb hby d3_214) rfl (zXS_iload X243.here hx rfl (hb hby d3_215) rfl (zXS_ifNo X243.here hx rfl (hb hby d3_217) rfl (XT.i0_ne_f (by decide)) (zXT_lconst X243.here hx rfl (hb hby d3_220) hr)))))))))))))))) ?_
  refine Gl.go (fun _ hr => zXS_goto X243.here hx rfl (pc0 := 221) (pc' := 232) rfl (hb hby d3_221) (by decide) (by decide) (zXT_lor X243.here hx rfl (hb hby d3_232) rfl (zXT_lstore X243.here hx rfl (hb hby d3_233) rfl (l' := #[.val (.ref x), sJ cn, sS, sJ 0, sS, sJ 1, sS, sJ pt, sS, sJ (fMag cn), sS, sJ (fMag cn), sS, sJ 0, sS, sJ 0, sS, sJ 0, sS, sJ 0, sS, sI 0, sI 0, sJ (fMag cn), sS, sJ 0, sS, sJ 0, sS, sU, sU, sU, sU, sU, sU, sU, sU, sU, sU, sU, sU, sU, sU, sU, sU, sU, sU, sU, sU, sU, sU, sU, sU, sU, sU, sU, sU]) rfl (zXS_iload X243.here hx rfl (hb hby d3_235) rfl (zXS_ifNo X243.here hx rfl (hb hby d3_237) rfl (XT.i0_ne_f (by decide)) (zXT_lconst X243.here hx rfl (hb hby d3_240) (zXS_goto X243.here hx rfl (pc0 := 241) (pc' := 252) rfl (hb hby d3_241) (by decide) (by decide) (zXT_lstore X243.here hx rfl (hb hby d3_252) rfl (l' := #[.val (.ref x), sJ cn, sS, sJ 0, sS, sJ 1, sS, sJ pt, sS, sJ (fMag cn), sS, sJ (fMag cn), sS, sJ 0, sS, sJ 0, sS, sJ 0, sS, sJ 0, sS, sI 0, sI 0, sJ (fMag cn), sS, sJ 0, sS, sJ 0, sS, sJ 0, sS, sU, sU, sU, sU, sU, sU, sU, sU, sU, sU, sU, sU, sU, sU, sU, sU, sU, sU, sU, sU, sU, sU, sU, sU, sU, sU]) rfl (zXS_iconst X243.here hx rfl (hb hby d3_254) (zXS_iload X243.here hx rfl (hb hby d3_255) rfl (zXT_lload X243.here hx rfl (hb hby d3_257) rfl (zXT_lload X243.here hx rfl (hb hby d3_259) rfl (zXT_lload X243.here hx rfl (hb hby d3_261) rfl (zXT_lload X243.here hx rfl (hb hby d3_263) rfl hr)))))))))))))) ?_
  have zz244 : n0 ≤ h0.size := by omega
  refine gStaticN Gl.cl (y := (⟨"com/example/evenkeel/evenkeel/share/FlooredSum", "placed", "(IIJJJJ)J"⟩ : MethodName)) (argsL := [(.int (0 : Int32)), (.int (0 : Int32)), (.long (fMag cn)), (.long (0 : Int64)), (.long (0 : Int64)), (.long (0 : Int64))]) (rest := []) (mc := 0) (ms := 0) X243 hx hZ hown (mvT hZ (hw _ (List.mem_of_getElem? (i := 62) rfl))) (mvT hZ (hw _ (List.mem_of_getElem? (i := 63) rfl))) (mvT hZ (hw _ (List.mem_of_getElem? (i := 6) rfl))) (mvT hZ (hw _ (List.mem_of_getElem? (i := 64) rfl))) (by decide) (backOf (W := 0) (pl00 l Z a0 hw [] (fMag cn) (0 : Int64) (0 : Int64) (0 : Int64) h0 n0 zz244 ) hZ (hw _ (List.mem_of_getElem? (i := 64) rfl)) (hw _ (List.mem_of_getElem? (i := 6) rfl)) (by decide) (by decide)) rfl (by rw [hml]; rfl) (lenOf pd_5 rfl) rfl (by show 2 * 0 + _ ≤ _; exact Nat.le_of_eq rfl) (hb hby d3_265) rfl e243 (by decide) (by decide) ?_
  intro v244 T244 Lc244 hQ244 X244
  obtain ⟨rfl, Nq244, e244⟩ := hQ244
  have N244 := Fr.app N243 Nq244
  refine Gl.go (fun _ hr => zXT_lstore X244.here hx rfl (hb hby d3_268) rfl (l' := #[.val (.ref x), sJ cn, sS, sJ 0, sS, sJ 1, sS, sJ pt, sS, sJ (fMag cn), sS, sJ (fMag cn), sS, sJ 0, sS, sJ 0, sS, sJ 0, sS, sJ 0, sS, sI 0, sI 0, sJ (fMag cn), sS, sJ 0, sS, sJ 0, sS, sJ 0, sS, sJ (fMag cn), sS, sU, sU, sU, sU, sU, sU, sU, sU, sU, sU, sU, sU, sU, sU, sU, sU, sU, sU, sU, sU, sU, sU, sU, sU]) rfl (zXS_iconst X244.here hx rfl (hb hby d3_270) (zXS_iload X244.here hx rfl (hb hby d3_271) rfl (zXT_lload X244.here hx rfl (hb hby d3_273) rfl (zXT_lload X244.here hx rfl (hb hby d3_275) rfl (zXT_lload X244.here hx rfl (hb hby d3_277) rfl (zXT_lload X244.here hx rfl (hb hby d3_279) rfl hr))))))) ?_
  have zz245 : n0 ≤ h0.size := by omega
  refine gStaticN Gl.cl (y := (⟨"com/example/evenkeel/evenkeel/share/FlooredSum", "placed", "(IIJJJJ)J"⟩ : MethodName)) (argsL := [(.int (1 : Int32)), (.int (0 : Int32)), (.long (fMag cn)), (.long (0 : Int64)), (.long (0 : Int64)), (.long (0 : Int64))]) (rest := []) (mc := 0) (ms := 0) X244 hx hZ hown (mvT hZ (hw _ (List.mem_of_getElem? (i := 62) rfl))) (mvT hZ (hw _ (List.mem_of_getElem? (i := 63) rfl))) (mvT hZ (hw _ (List.mem_of_getElem? (i := 6) rfl))) (mvT hZ (hw _ (List.mem_of_getElem? (i := 64) rfl))) (by decide) (backOf (W := 0) (pl10 l Z a0 hw [] (fMag cn) (0 : Int64) (0 : Int64) (0 : Int64) h0 n0 zz245 ) hZ (hw _ (List.mem_of_getElem? (i := 64) rfl)) (hw _ (List.mem_of_getElem? (i := 6) rfl)) (by decide) (by decide)) rfl (by rw [hml]; rfl) (lenOf pd_5 rfl) rfl (by show 2 * 0 + _ ≤ _; exact Nat.le_of_eq rfl) (hb hby d3_281) rfl e244 (by decide) (by decide) ?_
  intro v245 T245 Lc245 hQ245 X245
  obtain ⟨rfl, Nq245, e245⟩ := hQ245
  have N245 := Fr.app N244 Nq245
  refine Gl.go (fun _ hr => zXT_lstore X245.here hx rfl (hb hby d3_284) rfl (l' := #[.val (.ref x), sJ cn, sS, sJ 0, sS, sJ 1, sS, sJ pt, sS, sJ (fMag cn), sS, sJ (fMag cn), sS, sJ 0, sS, sJ 0, sS, sJ 0, sS, sJ 0, sS, sI 0, sI 0, sJ (fMag cn), sS, sJ 0, sS, sJ 0, sS, sJ 0, sS, sJ (fMag cn), sS, sJ 0, sS, sU, sU, sU, sU, sU, sU, sU, sU, sU, sU, sU, sU, sU, sU, sU, sU, sU, sU, sU, sU, sU, sU]) rfl (zXS_iconst X245.here hx rfl (hb hby d3_286) (zXS_iload X245.here hx rfl (hb hby d3_287) rfl (zXT_lload X245.here hx rfl (hb hby d3_289) rfl (zXT_lload X245.here hx rfl (hb hby d3_291) rfl (zXT_lload X245.here hx rfl (hb hby d3_293) rfl (zXT_lload X245.here hx rfl (hb hby d3_295) rfl hr))))))) ?_
  have zz246 : n0 ≤ h0.size := by omega
  refine gStaticN Gl.cl (y := (⟨"com/example/evenkeel/evenkeel/share/FlooredSum", "placed", "(IIJJJJ)J"⟩ : MethodName)) (argsL := [(.int (2 : Int32)), (.int (0 : Int32)), (.long (fMag cn)), (.long (0 : Int64)), (.long (0 : Int64)), (.long (0 : Int64))]) (rest := []) (mc := 0) (ms := 0) X245 hx hZ hown (mvT hZ (hw _ (List.mem_of_getElem? (i := 62) rfl))) (mvT hZ (hw _ (List.mem_of_getElem? (i := 63) rfl))) (mvT hZ (hw _ (List.mem_of_getElem? (i := 6) rfl))) (mvT hZ (hw _ (List.mem_of_getElem? (i := 64) rfl))) (by decide) (backOf (W := 0) (pl20 l Z a0 hw [] (fMag cn) (0 : Int64) (0 : Int64) (0 : Int64) h0 n0 zz246 ) hZ (hw _ (List.mem_of_getElem? (i := 64) rfl)) (hw _ (List.mem_of_getElem? (i := 6) rfl)) (by decide) (by decide)) rfl (by rw [hml]; rfl) (lenOf pd_5 rfl) rfl (by show 2 * 0 + _ ≤ _; exact Nat.le_of_eq rfl) (hb hby d3_297) rfl e245 (by decide) (by decide) ?_
  intro v246 T246 Lc246 hQ246 X246
  obtain ⟨rfl, Nq246, e246⟩ := hQ246
  have N246 := Fr.app N245 Nq246
  refine Gl.go (fun _ hr => zXT_lstore X246.here hx rfl (hb hby d3_300) rfl (l' := #[.val (.ref x), sJ cn, sS, sJ 0, sS, sJ 1, sS, sJ pt, sS, sJ (fMag cn), sS, sJ (fMag cn), sS, sJ 0, sS, sJ 0, sS, sJ 0, sS, sJ 0, sS, sI 0, sI 0, sJ (fMag cn), sS, sJ 0, sS, sJ 0, sS, sJ 0, sS, sJ (fMag cn), sS, sJ 0, sS, sJ 0, sS, sU, sU, sU, sU, sU, sU, sU, sU, sU, sU, sU, sU, sU, sU, sU, sU, sU, sU, sU, sU]) rfl (zXS_iconst X246.here hx rfl (hb hby d3_302) (zXS_iload X246.here hx rfl (hb hby d3_303) rfl (zXT_lload X246.here hx rfl (hb hby d3_305) rfl (zXT_lload X246.here hx rfl (hb hby d3_307) rfl (zXT_lload X246.here hx rfl (hb hby d3_309) rfl (zXT_lload X246.here hx rfl (hb hby d3_311) rfl hr))))))) ?_
  have zz247 : n0 ≤ h0.size := by omega
  refine gStaticN Gl.cl (y := (⟨"com/example/evenkeel/evenkeel/share/FlooredSum", "placed", "(IIJJJJ)J"⟩ : MethodName)) (argsL := [(.int (3 : Int32)), (.int (0 : Int32)), (.long (fMag cn)), (.long (0 : Int64)), (.long (0 : Int64)), (.long (0 : Int64))]) (rest := []) (mc := 0) (ms := 0) X246 hx hZ hown (mvT hZ (hw _ (List.mem_of_getElem? (i := 62) rfl))) (mvT hZ (hw _ (List.mem_of_getElem? (i := 63) rfl))) (mvT hZ (hw _ (List.mem_of_getElem? (i := 6) rfl))) (mvT hZ (hw _ (List.mem_of_getElem? (i := 64) rfl))) (by decide) (backOf (W := 0) (pl30 l Z a0 hw [] (fMag cn) (0 : Int64) (0 : Int64) (0 : Int64) h0 n0 zz247 ) hZ (hw _ (List.mem_of_getElem? (i := 64) rfl)) (hw _ (List.mem_of_getElem? (i := 6) rfl)) (by decide) (by decide)) rfl (by rw [hml]; rfl) (lenOf pd_5 rfl) rfl (by show 2 * 0 + _ ≤ _; exact Nat.le_of_eq rfl) (hb hby d3_313) rfl e246 (by decide) (by decide) ?_
  intro v247 T247 Lc247 hQ247 X247
  obtain ⟨rfl, Nq247, e247⟩ := hQ247
  have N247 := Fr.app N246 Nq247
  refine Gl.go (fun _ hr => zXT_lstore X247.here hx rfl (hb hby d3_316) rfl (l' := #[.val (.ref x), sJ cn, sS, sJ 0, sS, sJ 1, sS, sJ pt, sS, sJ (fMag cn), sS, sJ (fMag cn), sS, sJ 0, sS, sJ 0, sS, sJ 0, sS, sJ 0, sS, sI 0, sI 0, sJ (fMag cn), sS, sJ 0, sS, sJ 0, sS, sJ 0, sS, sJ (fMag cn), sS, sJ 0, sS, sJ 0, sS, sJ 0, sS, sU, sU, sU, sU, sU, sU, sU, sU, sU, sU, sU, sU, sU, sU, sU, sU, sU, sU]) rfl (zXT_lloadN X247.here hx rfl (hb hby d3_318) rfl (zXT_lconst X247.here hx rfl (hb hby d3_319) (zXT_lcmp X247.here hx rfl (hb hby d3_320) rfl hr)))) ?_
  by_cases hc248 : cn < (0 : Int64)
  · refine Gl.go (fun _ hr => zXS_ifNo X247.here hx rfl (hb hby d3_321) rfl (XT.ll_ge_f hc248) (zXT_lload X247.here hx rfl (hb hby d3_324) rfl hr)) ?_
    refine Gl.go (X247.ldc2Long hx hown (mvT hZ (hw _ (List.mem_of_getElem? (i := 67) rfl))) rfl (hb hby d3_326)) ?_
    refine Gl.go (fun _ hr => zXT_lxor X247.here hx rfl (hb hby d3_329) rfl (zXT_lconst X247.here hx rfl (hb hby d3_330) (zXT_ladd X247.here hx rfl (hb hby d3_331) rfl hr))) ?_
    show Gl p.tables e below _ (T247.setTop (mkF m 332 #[.val (.ref x), sJ cn, sS, sJ 0, sS, sJ 1, sS, sJ pt, sS, sJ (fMag cn), sS, sJ (fMag cn), sS, sJ 0, sS, sJ 0, sS, sJ 0, sS, sJ 0, sS, sI 0, sI 0, sJ (fMag cn), sS, sJ 0, sS, sJ 0, sS, sJ 0, sS, sJ (fMag cn), sS, sJ 0, sS, sJ 0, sS, sJ 0, sS, sU, sU, sU, sU, sU, sU, sU, sU, sU, sU, sU, sU, sU, sU, sU, sU, sU, sU] [(.long (((fMag cn) ^^^ (-1 : Int64)) + (1 : Int64)))]))
    rw [own_neg]
    show Gl p.tables e below _ (T247.setTop (mkF m 332 #[.val (.ref x), sJ cn, sS, sJ 0, sS, sJ 1, sS, sJ pt, sS, sJ (fMag cn), sS, sJ (fMag cn), sS, sJ 0, sS, sJ 0, sS, sJ 0, sS, sJ 0, sS, sI 0, sI 0, sJ (fMag cn), sS, sJ 0, sS, sJ 0, sS, sJ 0, sS, sJ (fMag cn), sS, sJ 0, sS, sJ 0, sS, sJ 0, sS, sU, sU, sU, sU, sU, sU, sU, sU, sU, sU, sU, sU, sU, sU, sU, sU, sU, sU] [(.long (-(fMag cn)))]))
    refine Gl.go (fun _ hr => zXT_lstore X247.here hx rfl (hb hby d3_332) rfl (l' := #[.val (.ref x), sJ cn, sS, sJ 0, sS, sJ 1, sS, sJ pt, sS, sJ (fMag cn), sS, sJ (fMag cn), sS, sJ 0, sS, sJ 0, sS, sJ 0, sS, sJ 0, sS, sI 0, sI 0, sJ (fMag cn), sS, sJ 0, sS, sJ 0, sS, sJ 0, sS, sJ (-(fMag cn)), sS, sJ 0, sS, sJ 0, sS, sJ 0, sS, sU, sU, sU, sU, sU, sU, sU, sU, sU, sU, sU, sU, sU, sU, sU, sU, sU, sU]) rfl (zXT_lload X247.here hx rfl (hb hby d3_334) rfl (zXT_lconst X247.here hx rfl (hb hby d3_336) (zXT_lcmp X247.here hx rfl (hb hby d3_337) rfl hr)))) ?_
    refine Gl.go (fun _ hr => zXS_ifYes X247.here hx rfl (pc0 := 338) (pc' := 345) rfl (hb hby d3_338) rfl (XT.ll_ne_t hneg) (by decide) (by decide) (zXT_lconst X247.here hx rfl (hb hby d3_345) (zXT_lstore X247.here hx rfl (hb hby d3_346) rfl (l' := #[.val (.ref x), sJ cn, sS, sJ 0, sS, sJ 1, sS, sJ pt, sS, sJ (fMag cn), sS, sJ (fMag cn), sS, sJ 0, sS, sJ 0, sS, sJ 0, sS, sJ 0, sS, sI 0, sI 0, sJ (fMag cn), sS, sJ 0, sS, sJ 0, sS, sJ 0, sS, sJ (-(fMag cn)), sS, sJ 0, sS, sJ 0, sS, sJ 0, sS, sJ 0, sS, sU, sU, sU, sU, sU, sU, sU, sU, sU, sU, sU, sU, sU, sU, sU, sU]) rfl (zXT_lload X247.here hx rfl (hb hby d3_348) rfl hr)))) ?_
    refine Gl.go (X247.ldc2Long hx hown (mvT hZ (hw _ (List.mem_of_getElem? (i := 67) rfl))) rfl (hb hby d3_350)) ?_
    refine Gl.go (fun _ hr => zXT_lxor X247.here hx rfl (hb hby d3_353) rfl (zXT_lload X247.here hx rfl (hb hby d3_354) rfl (zXT_ladd X247.here hx rfl (hb hby d3_356) rfl (zXT_lstore X247.here hx rfl (hb hby d3_357) rfl (l' := #[.val (.ref x), sJ cn, sS, sJ 0, sS, sJ 1, sS, sJ pt, sS, sJ (fMag cn), sS, sJ (fMag cn), sS, sJ 0, sS, sJ 0, sS, sJ 0, sS, sJ 0, sS, sI 0, sI 0, sJ (fMag cn), sS, sJ 0, sS, sJ 0, sS, sJ 0, sS, sJ (-(fMag cn)), sS, sJ (-1), sS, sJ 0, sS, sJ 0, sS, sJ 0, sS, sU, sU, sU, sU, sU, sU, sU, sU, sU, sU, sU, sU, sU, sU, sU, sU]) rfl (zXT_lload X247.here hx rfl (hb hby d3_359) rfl (zXT_lconst X247.here hx rfl (hb hby d3_361) (zXT_lcmp X247.here hx rfl (hb hby d3_362) rfl (zXS_ifYes X247.here hx rfl (pc0 := 363) (pc' := 377) rfl (hb hby d3_363) rfl (XT.ll_ne_t (by decide)) (by decide) (by decide) (zXT_lconst X247.here hx rfl (hb hby d3_377) (zXT_lstore X247.here hx rfl (hb hby d3_378) rfl (l' := #[.val (.ref x), sJ cn, sS, sJ 0, sS, sJ 1, sS, sJ pt, sS, sJ (fMag cn), sS, sJ (fMag cn), sS, sJ 0, sS, sJ 0, sS, sJ 0, sS, sJ 0, sS, sI 0, sI 0, sJ (fMag cn), sS, sJ 0, sS, sJ 0, sS, sJ 0, sS, sJ (-(fMag cn)), sS, sJ (-1), sS, sJ 0, sS, sJ 0, sS, sJ 0, sS, sJ 0, sS, sU, sU, sU, sU, sU, sU, sU, sU, sU, sU, sU, sU, sU, sU]) rfl (zXT_lload X247.here hx rfl (hb hby d3_380) rfl hr))))))))))) ?_
    refine Gl.go (X247.ldc2Long hx hown (mvT hZ (hw _ (List.mem_of_getElem? (i := 67) rfl))) rfl (hb hby d3_382)) ?_
    refine Gl.go (fun _ hr => zXT_lxor X247.here hx rfl (hb hby d3_385) rfl (zXT_lload X247.here hx rfl (hb hby d3_386) rfl (zXT_ladd X247.here hx rfl (hb hby d3_388) rfl (zXT_lstore X247.here hx rfl (hb hby d3_389) rfl (l' := #[.val (.ref x), sJ cn, sS, sJ 0, sS, sJ 1, sS, sJ pt, sS, sJ (fMag cn), sS, sJ (fMag cn), sS, sJ 0, sS, sJ 0, sS, sJ 0, sS, sJ 0, sS, sI 0, sI 0, sJ (fMag cn), sS, sJ 0, sS, sJ 0, sS, sJ 0, sS, sJ (-(fMag cn)), sS, sJ (-1), sS, sJ (-1), sS, sJ 0, sS, sJ 0, sS, sJ 0, sS, sU, sU, sU, sU, sU, sU, sU, sU, sU, sU, sU, sU, sU, sU]) rfl (zXT_lload X247.here hx rfl (hb hby d3_391) rfl (zXT_lconst X247.here hx rfl (hb hby d3_393) (zXT_lcmp X247.here hx rfl (hb hby d3_394) rfl (zXS_ifYes X247.here hx rfl (pc0 := 395) (pc' := 409) rfl (hb hby d3_395) rfl (XT.ll_ne_t (by decide)) (by decide) (by decide) (zXT_lconst X247.here hx rfl (hb hby d3_409) (zXT_lstore X247.here hx rfl (hb hby d3_410) rfl (l' := #[.val (.ref x), sJ cn, sS, sJ 0, sS, sJ 1, sS, sJ pt, sS, sJ (fMag cn), sS, sJ (fMag cn), sS, sJ 0, sS, sJ 0, sS, sJ 0, sS, sJ 0, sS, sI 0, sI 0, sJ (fMag cn), sS, sJ 0, sS, sJ 0, sS, sJ 0, sS, sJ (-(fMag cn)), sS, sJ (-1), sS, sJ (-1), sS, sJ 0, sS, sJ 0, sS, sJ 0, sS, sJ 0, sS, sU, sU, sU, sU, sU, sU, sU, sU, sU, sU, sU, sU]) rfl (zXT_lload X247.here hx rfl (hb hby d3_412) rfl hr))))))))))) ?_
    refine Gl.go (X247.ldc2Long hx hown (mvT hZ (hw _ (List.mem_of_getElem? (i := 67) rfl))) rfl (hb hby d3_414)) ?_
    refine Gl.go (fun _ hr => zXT_lxor X247.here hx rfl (hb hby d3_417) rfl (zXT_lload X247.here hx rfl (hb hby d3_418) rfl (zXT_ladd X247.here hx rfl (hb hby d3_420) rfl (zXT_lstore X247.here hx rfl (hb hby d3_421) rfl (l' := #[.val (.ref x), sJ cn, sS, sJ 0, sS, sJ 1, sS, sJ pt, sS, sJ (fMag cn), sS, sJ (fMag cn), sS, sJ 0, sS, sJ 0, sS, sJ 0, sS, sJ 0, sS, sI 0, sI 0, sJ (fMag cn), sS, sJ 0, sS, sJ 0, sS, sJ 0, sS, sJ (-(fMag cn)), sS, sJ (-1), sS, sJ (-1), sS, sJ (-1), sS, sJ 0, sS, sJ 0, sS, sJ 0, sS, sU, sU, sU, sU, sU, sU, sU, sU, sU, sU, sU, sU]) rfl (zXS_aloadN X247.here hx rfl (hb hby d3_423) rfl rfl hr))))) ?_
    refine gGetF (host := "") Gl.cl X247 hx hZ hown (Or.inl (hw _ (List.mem_of_getElem? (i := 27) rfl))) Via.refl e247 q3 rfl rfl (hb hby d3_424) ?_
    intro T249 X249 e249
    refine Gl.go (fun _ hr => zXT_lload X249.here hx rfl (hb hby d3_427) rfl (zXT_ladd X249.here hx rfl (hb hby d3_429) rfl (zXT_lstore X249.here hx rfl (hb hby d3_430) rfl (l' := #[.val (.ref x), sJ cn, sS, sJ 0, sS, sJ 1, sS, sJ pt, sS, sJ (fMag cn), sS, sJ (fMag cn), sS, sJ 0, sS, sJ 0, sS, sJ 0, sS, sJ 0, sS, sI 0, sI 0, sJ (fMag cn), sS, sJ 0, sS, sJ 0, sS, sJ 0, sS, sJ (-(fMag cn)), sS, sJ (-1), sS, sJ (-1), sS, sJ (-1), sS, sJ (l0 + (-(fMag cn))), sS, sJ 0, sS, sJ 0, sS, sU, sU, sU, sU, sU, sU, sU, sU, sU, sU, sU, sU]) rfl (zXT_lload X249.here hx rfl (hb hby d3_432) rfl (zXS_aloadN X249.here hx rfl (hb hby d3_434) rfl rfl hr))))) ?_
    refine gGetF (host := "") Gl.cl X249 hx hZ hown (Or.inl (hw _ (List.mem_of_getElem? (i := 27) rfl))) Via.refl e249 q3 rfl rfl (hb hby d3_435) ?_
    intro T250 X250 e250
    have zz251 : n0 ≤ h0.size := by omega
    refine gStaticN Gl.cl (y := (⟨"java/lang/Long", "compareUnsigned", "(JJ)I"⟩ : MethodName)) (argsL := [(.long (l0 + (-(fMag cn)))), (.long l0)]) (rest := []) (mc := 0) (ms := 0) X250 hx hZ hown (mvT hZ (hw _ (List.mem_of_getElem? (i := 46) rfl))) (mvT hZ (hw _ (List.mem_of_getElem? (i := 47) rfl))) (mvT hZ (hw _ (List.mem_of_getElem? (i := 48) rfl))) (mvT hZ (hw _ (List.mem_of_getElem? (i := 49) rfl))) (by decide) (backOf (W := 0) (cum l Z a0 hw [] (l0 + (-(fMag cn))) l0 h0 n0 zz251 ) hZ (hw _ (List.mem_of_getElem? (i := 49) rfl)) (hw _ (List.mem_of_getElem? (i := 48) rfl)) (by decide) (by decide)) rfl (by rw [hml]; rfl) (lenOf pd_1 rfl) rfl (by show 2 * 0 + _ ≤ _; exact Nat.le_of_eq rfl) (hb hby d3_438) rfl e250 (by decide) (by decide) ?_
    intro v251 T251 Lc251 hQ251 X251
    obtain ⟨rfl, Nq251, e251⟩ := hQ251
    have N251 := Fr.app N247 Nq251
    obtain ⟨T252, ⟨lc252, N252, X252, e252⟩, st252⟩ : Sg (fun U => ∃ lc, Fr n0 lc ∧ Stand p l e ({ frames := 2, cells := 0, slots := 0, locals := 50 } : Room) s m #[(.ref x), (.long cn), (.long (0 : Int64)), (.long (1 : Int64)), (.long pt)] below meth c U lc 0 0 ∧ U.heap = h0) (mkF m 449 #[.val (.ref x), sJ cn, sS, sJ 0, sS, sJ 1, sS, sJ pt, sS, sJ (fMag cn), sS, sJ (fMag cn), sS, sJ 0, sS, sJ 0, sS, sJ 0, sS, sJ 0, sS, sI 0, sI 0, sJ (fMag cn), sS, sJ 0, sS, sJ 0, sS, sJ 0, sS, sJ (-(fMag cn)), sS, sJ (-1), sS, sJ (-1), sS, sJ (-1), sS, sJ (l0 + (-(fMag cn))), sS, sJ 0, sS, sJ 0, sS, sU, sU, sU, sU, sU, sU, sU, sU, sU, sU, sU, sU] [(.long (if cu (l0 + (-(fMag cn))) l0 < 0 then (1 : Int64) else 0))]) p.tables e below (T251.setTop (mkF m 441 #[.val (.ref x), sJ cn, sS, sJ 0, sS, sJ 1, sS, sJ pt, sS, sJ (fMag cn), sS, sJ (fMag cn), sS, sJ 0, sS, sJ 0, sS, sJ 0, sS, sJ 0, sS, sI 0, sI 0, sJ (fMag cn), sS, sJ 0, sS, sJ 0, sS, sJ 0, sS, sJ (-(fMag cn)), sS, sJ (-1), sS, sJ (-1), sS, sJ (-1), sS, sJ (l0 + (-(fMag cn))), sS, sJ 0, sS, sJ 0, sS, sU, sU, sU, sU, sU, sU, sU, sU, sU, sU, sU, sU] [(.int (cu (l0 + (-(fMag cn))) l0))])) := by
      by_cases hc253 : (cu (l0 + (-(fMag cn))) l0) < (0 : Int32)
      · refine Sg.go (fun _ hr => zXS_ifNo X251.here hx rfl (hb hby d3_441) rfl (XT.i0_ge_f hc253) (zXT_lconst X251.here hx rfl (hb hby d3_444) (zXS_goto X251.here hx rfl (pc0 := 445) (pc' := 449) rfl (hb hby d3_445) (by decide) (by decide) hr))) ?_
        show Sg _ _ p.tables e below (T251.setTop (mkF m 449 #[.val (.ref x), sJ cn, sS, sJ 0, sS, sJ 1, sS, sJ pt, sS, sJ (fMag cn), sS, sJ (fMag cn), sS, sJ 0, sS, sJ 0, sS, sJ 0, sS, sJ 0, sS, sI 0, sI 0, sJ (fMag cn), sS, sJ 0, sS, sJ 0, sS, sJ 0, sS, sJ (-(fMag cn)), sS, sJ (-1), sS, sJ (-1), sS, sJ (-1), sS, sJ (l0 + (-(fMag cn))), sS, sJ 0, sS, sJ 0, sS, sU, sU, sU, sU, sU, sU, sU, sU, sU, sU, sU, sU] [(.long (1 : Int64))]))
        exact ⟨T251, ⟨_, N251, X251, e251⟩, fun _ hr => by rw [if_pos hc253] at hr; exact hr⟩
      · refine Sg.go (fun _ hr => zXS_ifYes X251.here hx rfl (pc0 := 441) (pc' := 448) rfl (hb hby d3_441) rfl (XT.i0_ge_t hc253) (by decide) (by decide) (zXT_lconst X251.here hx rfl (hb hby d3_448) hr)) ?_
        show Sg _ _ p.tables e below (T251.setTop (mkF m 449 #[.val (.ref x), sJ cn, sS, sJ 0, sS, sJ 1, sS, sJ pt, sS, sJ (fMag cn), sS, sJ (fMag cn), sS, sJ 0, sS, sJ 0, sS, sJ 0, sS, sJ 0, sS, sI 0, sI 0, sJ (fMag cn), sS, sJ 0, sS, sJ 0, sS, sJ 0, sS, sJ (-(fMag cn)), sS, sJ (-1), sS, sJ (-1), sS, sJ (-1), sS, sJ (l0 + (-(fMag cn))), sS, sJ 0, sS, sJ 0, sS, sU, sU, sU, sU, sU, sU, sU, sU, sU, sU, sU, sU] [(.long (0 : Int64))]))
        exact ⟨T251, ⟨_, N251, X251, e251⟩, fun _ hr => by rw [if_neg hc253] at hr; exact hr⟩
    refine Gl.go st252 ?_
    show Gl p.tables e below _ (T252.setTop (mkF m 449 #[.val (.ref x), sJ cn, sS, sJ 0, sS, sJ 1, sS, sJ pt, sS, sJ (fMag cn), sS, sJ (fMag cn), sS, sJ 0, sS, sJ 0, sS, sJ 0, sS, sJ 0, sS, sI 0, sI 0, sJ (fMag cn), sS, sJ 0, sS, sJ 0, sS, sJ 0, sS, sJ (-(fMag cn)), sS, sJ (-1), sS, sJ (-1), sS, sJ (-1), sS, sJ (l0 + (-(fMag cn))), sS, sJ 0, sS, sJ 0, sS, sU, sU, sU, sU, sU, sU, sU, sU, sU, sU, sU, sU] [(.long (if cu (l0 + (-(fMag cn))) l0 < 0 then (1 : Int64) else 0))]))
    obtain ⟨k254, hq_k254⟩ : ∃ q, q = (if cu (l0 + (-(fMag cn))) l0 < 0 then (1 : Int64) else 0) := ⟨_, rfl⟩
    rw [← hq_k254]
    have hq_k254_ : k254 = 0 ∨ k254 = 1 := by rw [hq_k254]; exact own_k01
    show Gl p.tables e below _ (T252.setTop (mkF m 449 #[.val (.ref x), sJ cn, sS, sJ 0, sS, sJ 1, sS, sJ pt, sS, sJ (fMag cn), sS, sJ (fMag cn), sS, sJ 0, sS, sJ 0, sS, sJ 0, sS, sJ 0, sS, sI 0, sI 0, sJ (fMag cn), sS, sJ 0, sS, sJ 0, sS, sJ 0, sS, sJ (-(fMag cn)), sS, sJ (-1), sS, sJ (-1), sS, sJ (-1), sS, sJ (l0 + (-(fMag cn))), sS, sJ 0, sS, sJ 0, sS, sU, sU, sU, sU, sU, sU, sU, sU, sU, sU, sU, sU] [(.long k254)]))
    refine Gl.go (fun _ hr => zXT_lstore X252.here hx rfl (hb hby d3_449) rfl (l' := #[.val (.ref x), sJ cn, sS, sJ 0, sS, sJ 1, sS, sJ pt, sS, sJ (fMag cn), sS, sJ (fMag cn), sS, sJ 0, sS, sJ 0, sS, sJ 0, sS, sJ 0, sS, sI 0, sI 0, sJ (fMag cn), sS, sJ 0, sS, sJ 0, sS, sJ 0, sS, sJ (-(fMag cn)), sS, sJ (-1), sS, sJ (-1), sS, sJ (-1), sS, sJ (l0 + (-(fMag cn))), sS, sJ k254, sS, sJ 0, sS, sU, sU, sU, sU, sU, sU, sU, sU, sU, sU, sU, sU]) rfl (zXS_aloadN X252.here hx rfl (hb hby d3_451) rfl rfl hr)) ?_
    refine gGetF (host := "") Gl.cl X252 hx hZ hown (Or.inl (hw _ (List.mem_of_getElem? (i := 29) rfl))) Via.refl e252 q4 rfl rfl (hb hby d3_452) ?_
    intro T255 X255 e255
    refine Gl.go (fun _ hr => zXT_lload X255.here hx rfl (hb hby d3_455) rfl (zXT_ladd X255.here hx rfl (hb hby d3_457) rfl (zXT_lstore X255.here hx rfl (hb hby d3_458) rfl (l' := #[.val (.ref x), sJ cn, sS, sJ 0, sS, sJ 1, sS, sJ pt, sS, sJ (fMag cn), sS, sJ (fMag cn), sS, sJ 0, sS, sJ 0, sS, sJ 0, sS, sJ 0, sS, sI 0, sI 0, sJ (fMag cn), sS, sJ 0, sS, sJ 0, sS, sJ 0, sS, sJ (-(fMag cn)), sS, sJ (-1), sS, sJ (-1), sS, sJ (-1), sS, sJ (l0 + (-(fMag cn))), sS, sJ k254, sS, sJ (l1 + (-1 : Int64)), sS, sU, sU, sU, sU, sU, sU, sU, sU, sU, sU, sU, sU]) rfl (zXT_lload X255.here hx rfl (hb hby d3_460) rfl (zXT_lload X255.here hx rfl (hb hby d3_462) rfl (zXT_ladd X255.here hx rfl (hb hby d3_464) rfl (zXT_lstore X255.here hx rfl (hb hby d3_465) rfl (l' := #[.val (.ref x), sJ cn, sS, sJ 0, sS, sJ 1, sS, sJ pt, sS, sJ (fMag cn), sS, sJ (fMag cn), sS, sJ 0, sS, sJ 0, sS, sJ 0, sS, sJ 0, sS, sI 0, sI 0, sJ (fMag cn), sS, sJ 0, sS, sJ 0, sS, sJ 0, sS, sJ (-(fMag cn)), sS, sJ (-1), sS, sJ (-1), sS, sJ (-1), sS, sJ (l0 + (-(fMag cn))), sS, sJ k254, sS, sJ (l1 + (-1 : Int64)), sS, sJ ((l1 + (-1 : Int64)) + k254), sS, sU, sU, sU, sU, sU, sU, sU, sU, sU, sU]) rfl (zXT_lload X255.here hx rfl (hb hby d3_467) rfl (zXS_aloadN X255.here hx rfl (hb hby d3_469) rfl rfl hr))))))))) ?_
    refine gGetF (host := "") Gl.cl X255 hx hZ hown (Or.inl (hw _ (List.mem_of_getElem? (i := 29) rfl))) Via.refl e255 q4 rfl rfl (hb hby d3_470) ?_
    intro T256 X256 e256
    have zz257 : n0 ≤ h0.size := by omega
    refine gStaticN Gl.cl (y := (⟨"java/lang/Long", "compareUnsigned", "(JJ)I"⟩ : MethodName)) (argsL := [(.long (l1 + (-1 : Int64))), (.long l1)]) (rest := []) (mc := 0) (ms := 0) X256 hx hZ hown (mvT hZ (hw _ (List.mem_of_getElem? (i := 46) rfl))) (mvT hZ (hw _ (List.mem_of_getElem? (i := 47) rfl))) (mvT hZ (hw _ (List.mem_of_getElem? (i := 48) rfl))) (mvT hZ (hw _ (List.mem_of_getElem? (i := 49) rfl))) (by decide) (backOf (W := 0) (cum l Z a0 hw [] (l1 + (-1 : Int64)) l1 h0 n0 zz257 ) hZ (hw _ (List.mem_of_getElem? (i := 49) rfl)) (hw _ (List.mem_of_getElem? (i := 48) rfl)) (by decide) (by decide)) rfl (by rw [hml]; rfl) (lenOf pd_1 rfl) rfl (by show 2 * 0 + _ ≤ _; exact Nat.le_of_eq rfl) (hb hby d3_473) rfl e256 (by decide) (by decide) ?_
    intro v257 T257 Lc257 hQ257 X257
    obtain ⟨rfl, Nq257, e257⟩ := hQ257
    have N257 := Fr.app N252 Nq257
    obtain ⟨T258, ⟨lc258, N258, X258, e258⟩, st258⟩ : Sg (fun U => ∃ lc, Fr n0 lc ∧ Stand p l e ({ frames := 2, cells := 0, slots := 0, locals := 50 } : Room) s m #[(.ref x), (.long cn), (.long (0 : Int64)), (.long (1 : Int64)), (.long pt)] below meth c U lc 0 0 ∧ U.heap = h0) (mkF m 494 #[.val (.ref x), sJ cn, sS, sJ 0, sS, sJ 1, sS, sJ pt, sS, sJ (fMag cn), sS, sJ (fMag cn), sS, sJ 0, sS, sJ 0, sS, sJ 0, sS, sJ 0, sS, sI 0, sI 0, sJ (fMag cn), sS, sJ 0, sS, sJ 0, sS, sJ 0, sS, sJ (-(fMag cn)), sS, sJ (-1), sS, sJ (-1), sS, sJ (-1), sS, sJ (l0 + (-(fMag cn))), sS, sJ k254, sS, sJ (l1 + (-1 : Int64)), sS, sJ ((l1 + (-1 : Int64)) + k254), sS, sU, sU, sU, sU, sU, sU, sU, sU, sU, sU] [(.long (if cu (l1 + (-1 : Int64)) l1 < 0 ∨ cu ((l1 + (-1 : Int64)) + k254) (l1 + (-1 : Int64)) < 0 then (1 : Int64) else 0))]) p.tables e below (T257.setTop (mkF m 476 #[.val (.ref x), sJ cn, sS, sJ 0, sS, sJ 1, sS, sJ pt, sS, sJ (fMag cn), sS, sJ (fMag cn), sS, sJ 0, sS, sJ 0, sS, sJ 0, sS, sJ 0, sS, sI 0, sI 0, sJ (fMag cn), sS, sJ 0, sS, sJ 0, sS, sJ 0, sS, sJ (-(fMag cn)), sS, sJ (-1), sS, sJ (-1), sS, sJ (-1), sS, sJ (l0 + (-(fMag cn))), sS, sJ k254, sS, sJ (l1 + (-1 : Int64)), sS, sJ ((l1 + (-1 : Int64)) + k254), sS, sU, sU, sU, sU, sU, sU, sU, sU, sU, sU] [(.int (cu (l1 + (-1 : Int64)) l1))])) := by
      by_cases hc259 : (cu (l1 + (-1 : Int64)) l1) < (0 : Int32)
      · refine Sg.go (fun _ hr => zXS_ifYes X257.here hx rfl (pc0 := 476) (pc' := 489) rfl (hb hby d3_476) rfl (XT.i0_lt_t hc259) (by decide) (by decide) (zXT_lconst X257.here hx rfl (hb hby d3_489) (zXS_goto X257.here hx rfl (pc0 := 490) (pc' := 494) rfl (hb hby d3_490) (by decide) (by decide) hr))) ?_
        show Sg _ _ p.tables e below (T257.setTop (mkF m 494 #[.val (.ref x), sJ cn, sS, sJ 0, sS, sJ 1, sS, sJ pt, sS, sJ (fMag cn), sS, sJ (fMag cn), sS, sJ 0, sS, sJ 0, sS, sJ 0, sS, sJ 0, sS, sI 0, sI 0, sJ (fMag cn), sS, sJ 0, sS, sJ 0, sS, sJ 0, sS, sJ (-(fMag cn)), sS, sJ (-1), sS, sJ (-1), sS, sJ (-1), sS, sJ (l0 + (-(fMag cn))), sS, sJ k254, sS, sJ (l1 + (-1 : Int64)), sS, sJ ((l1 + (-1 : Int64)) + k254), sS, sU, sU, sU, sU, sU, sU, sU, sU, sU, sU] [(.long (1 : Int64))]))
        exact ⟨T257, ⟨_, N257, X257, e257⟩, fun _ hr => by rw [if_pos (Or.inl hc259)] at hr; exact hr⟩
      · refine Sg.go (fun _ hr => zXS_ifNo X257.here hx rfl (hb hby d3_476) rfl (XT.i0_lt_f hc259) (zXT_lload X257.here hx rfl (hb hby d3_479) rfl (zXT_lload X257.here hx rfl (hb hby d3_481) rfl hr))) ?_
        have zz260 : n0 ≤ h0.size := by omega
        refine gStaticN Sg.cl (y := (⟨"java/lang/Long", "compareUnsigned", "(JJ)I"⟩ : MethodName)) (argsL := [(.long ((l1 + (-1 : Int64)) + k254)), (.long (l1 + (-1 : Int64)))]) (rest := []) (mc := 0) (ms := 0) X257 hx hZ hown (mvT hZ (hw _ (List.mem_of_getElem? (i := 46) rfl))) (mvT hZ (hw _ (List.mem_of_getElem? (i := 47) rfl))) (mvT hZ (hw _ (List.mem_of_getElem? (i := 48) rfl))) (mvT hZ (hw _ (List.mem_of_getElem? (i := 49) rfl))) (by decide) (backOf (W := 0) (cum l Z a0 hw [] ((l1 + (-1 : Int64)) + k254) (l1 + (-1 : Int64)) h0 n0 zz260 ) hZ (hw _ (List.mem_of_getElem? (i := 49) rfl)) (hw _ (List.mem_of_getElem? (i := 48) rfl)) (by decide) (by decide)) rfl (by rw [hml]; rfl) (lenOf pd_1 rfl) rfl (by show 2 * 0 + _ ≤ _; exact Nat.le_of_eq rfl) (hb hby d3_483) rfl e257 (by decide) (by decide) ?_
        intro v260 T260 Lc260 hQ260 X260
        obtain ⟨rfl, Nq260, e260⟩ := hQ260
        have N260 := Fr.app N257 Nq260
        by_cases hc261 : (cu ((l1 + (-1 : Int64)) + k254) (l1 + (-1 : Int64))) < (0 : Int32)
        · refine Sg.go (fun _ hr => zXS_ifNo X260.here hx rfl (hb hby d3_486) rfl (XT.i0_ge_f hc261) (zXT_lconst X260.here hx rfl (hb hby d3_489) (zXS_goto X260.here hx rfl (pc0 := 490) (pc' := 494) rfl (hb hby d3_490) (by decide) (by decide) hr))) ?_
          show Sg _ _ p.tables e below (T260.setTop (mkF m 494 #[.val (.ref x), sJ cn, sS, sJ 0, sS, sJ 1, sS, sJ pt, sS, sJ (fMag cn), sS, sJ (fMag cn), sS, sJ 0, sS, sJ 0, sS, sJ 0, sS, sJ 0, sS, sI 0, sI 0, sJ (fMag cn), sS, sJ 0, sS, sJ 0, sS, sJ 0, sS, sJ (-(fMag cn)), sS, sJ (-1), sS, sJ (-1), sS, sJ (-1), sS, sJ (l0 + (-(fMag cn))), sS, sJ k254, sS, sJ (l1 + (-1 : Int64)), sS, sJ ((l1 + (-1 : Int64)) + k254), sS, sU, sU, sU, sU, sU, sU, sU, sU, sU, sU] [(.long (1 : Int64))]))
          exact ⟨T260, ⟨_, N260, X260, e260⟩, fun _ hr => by rw [if_pos (Or.inr hc261)] at hr; exact hr⟩
        · refine Sg.go (fun _ hr => zXS_ifYes X260.here hx rfl (pc0 := 486) (pc' := 493) rfl (hb hby d3_486) rfl (XT.i0_ge_t hc261) (by decide) (by decide) (zXT_lconst X260.here hx rfl (hb hby d3_493) hr)) ?_
          show Sg _ _ p.tables e below (T260.setTop (mkF m 494 #[.val (.ref x), sJ cn, sS, sJ 0, sS, sJ 1, sS, sJ pt, sS, sJ (fMag cn), sS, sJ (fMag cn), sS, sJ 0, sS, sJ 0, sS, sJ 0, sS, sJ 0, sS, sI 0, sI 0, sJ (fMag cn), sS, sJ 0, sS, sJ 0, sS, sJ 0, sS, sJ (-(fMag cn)), sS, sJ (-1), sS, sJ (-1), sS, sJ (-1), sS, sJ (l0 + (-(fMag cn))), sS, sJ k254, sS, sJ (l1 + (-1 : Int64)), sS, sJ ((l1 + (-1 : Int64)) + k254), sS, sU, sU, sU, sU, sU, sU, sU, sU, sU, sU] [(.long (0 : Int64))]))
          exact ⟨T260, ⟨_, N260, X260, e260⟩, fun _ hr => by rw [if_neg (not_or.mpr ⟨hc259, hc261⟩)] at hr; exact hr⟩
    refine Gl.go st258 ?_
    show Gl p.tables e below _ (T258.setTop (mkF m 494 #[.val (.ref x), sJ cn, sS, sJ 0, sS, sJ 1, sS, sJ pt, sS, sJ (fMag cn), sS, sJ (fMag cn), sS, sJ 0, sS, sJ 0, sS, sJ 0, sS, sJ 0, sS, sI 0, sI 0, sJ (fMag cn), sS, sJ 0, sS, sJ 0, sS, sJ 0, sS, sJ (-(fMag cn)), sS, sJ (-1), sS, sJ (-1), sS, sJ (-1), sS, sJ (l0 + (-(fMag cn))), sS, sJ k254, sS, sJ (l1 + (-1 : Int64)), sS, sJ ((l1 + (-1 : Int64)) + k254), sS, sU, sU, sU, sU, sU, sU, sU, sU, sU, sU] [(.long (if cu (l1 + (-1 : Int64)) l1 < 0 ∨ cu ((l1 + (-1 : Int64)) + k254) (l1 + (-1 : Int64)) < 0 then (1 : Int64) else 0))]))
    obtain ⟨k262, hq_k262⟩ : ∃ q, q = (if cu (l1 + (-1 : Int64)) l1 < 0 ∨ cu ((l1 + (-1 : Int64)) + k254) (l1 + (-1 : Int64)) < 0 then (1 : Int64) else 0) := ⟨_, rfl⟩
    rw [← hq_k262]
    have hq_k262_ : k262 = 0 ∨ k262 = 1 := by rw [hq_k262]; exact own_k01
    show Gl p.tables e below _ (T258.setTop (mkF m 494 #[.val (.ref x), sJ cn, sS, sJ 0, sS, sJ 1, sS, sJ pt, sS, sJ (fMag cn), sS, sJ (fMag cn), sS, sJ 0, sS, sJ 0, sS, sJ 0, sS, sJ 0, sS, sI 0, sI 0, sJ (fMag cn), sS, sJ 0, sS, sJ 0, sS, sJ 0, sS, sJ (-(fMag cn)), sS, sJ (-1), sS, sJ (-1), sS, sJ (-1), sS, sJ (l0 + (-(fMag cn))), sS, sJ k254, sS, sJ (l1 + (-1 : Int64)), sS, sJ ((l1 + (-1 : Int64)) + k254), sS, sU, sU, sU, sU, sU, sU, sU, sU, sU, sU] [(.long k262)]))
    refine Gl.go (fun _ hr => zXT_lstore X258.here hx rfl (hb hby d3_494) rfl (l' := #[.val (.ref x), sJ cn, sS, sJ 0, sS, sJ 1, sS, sJ pt, sS, sJ (fMag cn), sS, sJ (fMag cn), sS, sJ 0, sS, sJ 0, sS, sJ 0, sS, sJ 0, sS, sI 0, sI 0, sJ (fMag cn), sS, sJ 0, sS, sJ 0, sS, sJ 0, sS, sJ (-(fMag cn)), sS, sJ (-1), sS, sJ (-1), sS, sJ (-1), sS, sJ (l0 + (-(fMag cn))), sS, sJ k254, sS, sJ (l1 + (-1 : Int64)), sS, sJ ((l1 + (-1 : Int64)) + k254), sS, sJ k262, sS, sU, sU, sU, sU, sU, sU, sU, sU]) rfl (zXS_aloadN X258.here hx rfl (hb hby d3_496) rfl rfl hr)) ?_
    refine gGetF (host := "") Gl.cl X258 hx hZ hown (Or.inl (hw _ (List.mem_of_getElem? (i := 31) rfl))) Via.refl e258 q5 rfl rfl (hb hby d3_497) ?_
    intro T263 X263 e263
    refine Gl.go (fun _ hr => zXT_lload X263.here hx rfl (hb hby d3_500) rfl (zXT_ladd X263.here hx rfl (hb hby d3_502) rfl (zXT_lstore X263.here hx rfl (hb hby d3_503) rfl (l' := #[.val (.ref x), sJ cn, sS, sJ 0, sS, sJ 1, sS, sJ pt, sS, sJ (fMag cn), sS, sJ (fMag cn), sS, sJ 0, sS, sJ 0, sS, sJ 0, sS, sJ 0, sS, sI 0, sI 0, sJ (fMag cn), sS, sJ 0, sS, sJ 0, sS, sJ 0, sS, sJ (-(fMag cn)), sS, sJ (-1), sS, sJ (-1), sS, sJ (-1), sS, sJ (l0 + (-(fMag cn))), sS, sJ k254, sS, sJ (l1 + (-1 : Int64)), sS, sJ ((l1 + (-1 : Int64)) + k254), sS, sJ k262, sS, sJ (l2 + (-1 : Int64)), sS, sU, sU, sU, sU, sU, sU]) rfl (zXT_lload X263.here hx rfl (hb hby d3_505) rfl (zXT_lload X263.here hx rfl (hb hby d3_507) rfl (zXT_ladd X263.here hx rfl (hb hby d3_509) rfl (zXT_lstore X263.here hx rfl (hb hby d3_510) rfl (l' := #[.val (.ref x), sJ cn, sS, sJ 0, sS, sJ 1, sS, sJ pt, sS, sJ (fMag cn), sS, sJ (fMag cn), sS, sJ 0, sS, sJ 0, sS, sJ 0, sS, sJ 0, sS, sI 0, sI 0, sJ (fMag cn), sS, sJ 0, sS, sJ 0, sS, sJ 0, sS, sJ (-(fMag cn)), sS, sJ (-1), sS, sJ (-1), sS, sJ (-1), sS, sJ (l0 + (-(fMag cn))), sS, sJ k254, sS, sJ (l1 + (-1 : Int64)), sS, sJ ((l1 + (-1 : Int64)) + k254), sS, sJ k262, sS, sJ (l2 + (-1 : Int64)), sS, sJ ((l2 + (-1 : Int64)) + k262), sS, sU, sU, sU, sU]) rfl (zXT_lload X263.here hx rfl (hb hby d3_512) rfl (zXS_aloadN X263.here hx rfl (hb hby d3_514) rfl rfl hr))))))))) ?_
    refine gGetF (host := "") Gl.cl X263 hx hZ hown (Or.inl (hw _ (List.mem_of_getElem? (i := 31) rfl))) Via.refl e263 q5 rfl rfl (hb hby d3_515) ?_
    intro T264 X264 e264
    have zz265 : n0 ≤ h0.size := by omega
    refine gStaticN Gl.cl (y := (⟨"java/lang/Long", "compareUnsigned", "(JJ)I"⟩ : MethodName)) (argsL := [(.long (l2 + (-1 : Int64))), (.long l2)]) (rest := []) (mc := 0) (ms := 0) X264 hx hZ hown (mvT hZ (hw _ (List.mem_of_getElem? (i := 46) rfl))) (mvT hZ (hw _ (List.mem_of_getElem? (i := 47) rfl))) (mvT hZ (hw _ (List.mem_of_getElem? (i := 48) rfl))) (mvT hZ (hw _ (List.mem_of_getElem? (i := 49) rfl))) (by decide) (backOf (W := 0) (cum l Z a0 hw [] (l2 + (-1 : Int64)) l2 h0 n0 zz265 ) hZ (hw _ (List.mem_of_getElem? (i := 49) rfl)) (hw _ (List.mem_of_getElem? (i := 48) rfl)) (by decide) (by decide)) rfl (by rw [hml]; rfl) (lenOf pd_1 rfl) rfl (by show 2 * 0 + _ ≤ _; exact Nat.le_of_eq rfl) (hb hby d3_518) rfl e264 (by decide) (by decide) ?_
    intro v265 T265 Lc265 hQ265 X265
    obtain ⟨rfl, Nq265, e265⟩ := hQ265
    have N265 := Fr.app N258 Nq265
    obtain ⟨T266, ⟨lc266, N266, X266, e266⟩, st266⟩ : Sg (fun U => ∃ lc, Fr n0 lc ∧ Stand p l e ({ frames := 2, cells := 0, slots := 0, locals := 50 } : Room) s m #[(.ref x), (.long cn), (.long (0 : Int64)), (.long (1 : Int64)), (.long pt)] below meth c U lc 0 0 ∧ U.heap = h0) (mkF m 539 #[.val (.ref x), sJ cn, sS, sJ 0, sS, sJ 1, sS, sJ pt, sS, sJ (fMag cn), sS, sJ (fMag cn), sS, sJ 0, sS, sJ 0, sS, sJ 0, sS, sJ 0, sS, sI 0, sI 0, sJ (fMag cn), sS, sJ 0, sS, sJ 0, sS, sJ 0, sS, sJ (-(fMag cn)), sS, sJ (-1), sS, sJ (-1), sS, sJ (-1), sS, sJ (l0 + (-(fMag cn))), sS, sJ k254, sS, sJ (l1 + (-1 : Int64)), sS, sJ ((l1 + (-1 : Int64)) + k254), sS, sJ k262, sS, sJ (l2 + (-1 : Int64)), sS, sJ ((l2 + (-1 : Int64)) + k262), sS, sU, sU, sU, sU] [(.long (if cu (l2 + (-1 : Int64)) l2 < 0 ∨ cu ((l2 + (-1 : Int64)) + k262) (l2 + (-1 : Int64)) < 0 then (1 : Int64) else 0))]) p.tables e below (T265.setTop (mkF m 521 #[.val (.ref x), sJ cn, sS, sJ 0, sS, sJ 1, sS, sJ pt, sS, sJ (fMag cn), sS, sJ (fMag cn), sS, sJ 0, sS, sJ 0, sS, sJ 0, sS, sJ 0, sS, sI 0, sI 0, sJ (fMag cn), sS, sJ 0, sS, sJ 0, sS, sJ 0, sS, sJ (-(fMag cn)), sS, sJ (-1), sS, sJ (-1), sS, sJ (-1), sS, sJ (l0 + (-(fMag cn))), sS, sJ k254, sS, sJ (l1 + (-1 : Int64)), sS, sJ ((l1 + (-1 : Int64)) + k254), sS, sJ k262, sS, sJ (l2 + (-1 : Int64)), sS, sJ ((l2 + (-1 : Int64)) + k262), sS, sU, sU, sU, sU] [(.int (cu (l2 + (-1 : Int64)) l2))])) := by
      by_cases hc267 : (cu (l2 + (-1 : Int64)) l2) < (0 : Int32)
      · refine Sg.go (fun _ hr => zXS_ifYes X265.here hx rfl (pc0 := 521) (pc' := 534) rfl (hb hby d3_521) rfl (XT.i0_lt_t hc267) (by decide) (by decide) (zXT_lconst X265.here hx rfl (hb hby d3_534) (zXS_goto X265.here hx rfl (pc0 := 535) (pc' := 539) rfl (hb hby d3_535) (by decide) (by decide) hr))) ?_
        show Sg _ _ p.tables e below (T265.setTop (mkF m 539 #[.val (.ref x), sJ cn, sS, sJ 0, sS, sJ 1, sS, sJ pt, sS, sJ (fMag cn), sS, sJ (fMag cn), sS, sJ 0, sS, sJ 0, sS, sJ 0, sS, sJ 0, sS, sI 0, sI 0, sJ (fMag cn), sS, sJ 0, sS, sJ 0, sS, sJ 0, sS, sJ (-(fMag cn)), sS, sJ (-1), sS, sJ (-1), sS, sJ (-1), sS, sJ (l0 + (-(fMag cn))), sS, sJ k254, sS, sJ (l1 + (-1 : Int64)), sS, sJ ((l1 + (-1 : Int64)) + k254), sS, sJ k262, sS, sJ (l2 + (-1 : Int64)), sS, sJ ((l2 + (-1 : Int64)) + k262), sS, sU, sU, sU, sU] [(.long (1 : Int64))]))
        exact ⟨T265, ⟨_, N265, X265, e265⟩, fun _ hr => by rw [if_pos (Or.inl hc267)] at hr; exact hr⟩
      · refine Sg.go (fun _ hr => zXS_ifNo X265.here hx rfl (hb hby d3_521) rfl (XT.i0_lt_f hc267) (zXT_lload X265.here hx rfl (hb hby d3_524) rfl (zXT_lload X265.here hx rfl (hb hby d3_526) rfl hr))) ?_
        have zz268 : n0 ≤ h0.size := by omega
        refine gStaticN Sg.cl (y := (⟨"java/lang/Long", "compareUnsigned", "(JJ)I"⟩ : MethodName)) (argsL := [(.long ((l2 + (-1 : Int64)) + k262)), (.long (l2 + (-1 : Int64)))]) (rest := []) (mc := 0) (ms := 0) X265 hx hZ hown (mvT hZ (hw _ (List.mem_of_getElem? (i := 46) rfl))) (mvT hZ (hw _ (List.mem_of_getElem? (i := 47) rfl))) (mvT hZ (hw _ (List.mem_of_getElem? (i := 48) rfl))) (mvT hZ (hw _ (List.mem_of_getElem? (i := 49) rfl))) (by decide) (backOf (W := 0) (cum l Z a0 hw [] ((l2 + (-1 : Int64)) + k262) (l2 + (-1 : Int64)) h0 n0 zz268 ) hZ (hw _ (List.mem_of_getElem? (i := 49) rfl)) (hw _ (List.mem_of_getElem? (i := 48) rfl)) (by decide) (by decide)) rfl (by rw [hml]; rfl) (lenOf pd_1 rfl) rfl (by show 2 * 0 + _ ≤ _; exact Nat.le_of_eq rfl) (hb hby d3_528) rfl e265 (by decide) (by decide) ?_
        intro v268 T268 Lc268 hQ268 X268
        obtain ⟨rfl, Nq268, e268⟩ := hQ268
        have N268 := Fr.app N265 Nq268
        by_cases hc269 : (cu ((l2 + (-1 : Int64)) + k262) (l2 + (-1 : Int64))) < (0 : Int32)
        · refine Sg.go (fun _ hr => zXS_ifNo X268.here hx rfl (hb hby d3_531) rfl (XT.i0_ge_f hc269) (zXT_lconst X268.here hx rfl (hb hby d3_534) (zXS_goto X268.here hx rfl (pc0 := 535) (pc' := 539) rfl (hb hby d3_535) (by decide) (by decide) hr))) ?_
          show Sg _ _ p.tables e below (T268.setTop (mkF m 539 #[.val (.ref x), sJ cn, sS, sJ 0, sS, sJ 1, sS, sJ pt, sS, sJ (fMag cn), sS, sJ (fMag cn), sS, sJ 0, sS, sJ 0, sS, sJ 0, sS, sJ 0, sS, sI 0, sI 0, sJ (fMag cn), sS, sJ 0, sS, sJ 0, sS, sJ 0, sS, sJ (-(fMag cn)), sS, sJ (-1), sS, sJ (-1), sS, sJ (-1), sS, sJ (l0 + (-(fMag cn))), sS, sJ k254, sS, sJ (l1 + (-1 : Int64)), sS, sJ ((l1 + (-1 : Int64)) + k254), sS, sJ k262, sS, sJ (l2 + (-1 : Int64)), sS, sJ ((l2 + (-1 : Int64)) + k262), sS, sU, sU, sU, sU] [(.long (1 : Int64))]))
          exact ⟨T268, ⟨_, N268, X268, e268⟩, fun _ hr => by rw [if_pos (Or.inr hc269)] at hr; exact hr⟩
        · refine Sg.go (fun _ hr => zXS_ifYes X268.here hx rfl (pc0 := 531) (pc' := 538) rfl (hb hby d3_531) rfl (XT.i0_ge_t hc269) (by decide) (by decide) (zXT_lconst X268.here hx rfl (hb hby d3_538) hr)) ?_
          show Sg _ _ p.tables e below (T268.setTop (mkF m 539 #[.val (.ref x), sJ cn, sS, sJ 0, sS, sJ 1, sS, sJ pt, sS, sJ (fMag cn), sS, sJ (fMag cn), sS, sJ 0, sS, sJ 0, sS, sJ 0, sS, sJ 0, sS, sI 0, sI 0, sJ (fMag cn), sS, sJ 0, sS, sJ 0, sS, sJ 0, sS, sJ (-(fMag cn)), sS, sJ (-1), sS, sJ (-1), sS, sJ (-1), sS, sJ (l0 + (-(fMag cn))), sS, sJ k254, sS, sJ (l1 + (-1 : Int64)), sS, sJ ((l1 + (-1 : Int64)) + k254), sS, sJ k262, sS, sJ (l2 + (-1 : Int64)), sS, sJ ((l2 + (-1 : Int64)) + k262), sS, sU, sU, sU, sU] [(.long (0 : Int64))]))
          exact ⟨T268, ⟨_, N268, X268, e268⟩, fun _ hr => by rw [if_neg (not_or.mpr ⟨hc267, hc269⟩)] at hr; exact hr⟩
    refine Gl.go st266 ?_
    show Gl p.tables e below _ (T266.setTop (mkF m 539 #[.val (.ref x), sJ cn, sS, sJ 0, sS, sJ 1, sS, sJ pt, sS, sJ (fMag cn), sS, sJ (fMag cn), sS, sJ 0, sS, sJ 0, sS, sJ 0, sS, sJ 0, sS, sI 0, sI 0, sJ (fMag cn), sS, sJ 0, sS, sJ 0, sS, sJ 0, sS, sJ (-(fMag cn)), sS, sJ (-1), sS, sJ (-1), sS, sJ (-1), sS, sJ (l0 + (-(fMag cn))), sS, sJ k254, sS, sJ (l1 + (-1 : Int64)), sS, sJ ((l1 + (-1 : Int64)) + k254), sS, sJ k262, sS, sJ (l2 + (-1 : Int64)), sS, sJ ((l2 + (-1 : Int64)) + k262), sS, sU, sU, sU, sU] [(.long (if cu (l2 + (-1 : Int64)) l2 < 0 ∨ cu ((l2 + (-1 : Int64)) + k262) (l2 + (-1 : Int64)) < 0 then (1 : Int64) else 0))]))
    obtain ⟨k270, hq_k270⟩ : ∃ q, q = (if cu (l2 + (-1 : Int64)) l2 < 0 ∨ cu ((l2 + (-1 : Int64)) + k262) (l2 + (-1 : Int64)) < 0 then (1 : Int64) else 0) := ⟨_, rfl⟩
    rw [← hq_k270]
    have hq_k270_ : k270 = 0 ∨ k270 = 1 := by rw [hq_k270]; exact own_k01
    show Gl p.tables e below _ (T266.setTop (mkF m 539 #[.val (.ref x), sJ cn, sS, sJ 0, sS, sJ 1, sS, sJ pt, sS, sJ (fMag cn), sS, sJ (fMag cn), sS, sJ 0, sS, sJ 0, sS, sJ 0, sS, sJ 0, sS, sI 0, sI 0, sJ (fMag cn), sS, sJ 0, sS, sJ 0, sS, sJ 0, sS, sJ (-(fMag cn)), sS, sJ (-1), sS, sJ (-1), sS, sJ (-1), sS, sJ (l0 + (-(fMag cn))), sS, sJ k254, sS, sJ (l1 + (-1 : Int64)), sS, sJ ((l1 + (-1 : Int64)) + k254), sS, sJ k262, sS, sJ (l2 + (-1 : Int64)), sS, sJ ((l2 + (-1 : Int64)) + k262), sS, sU, sU, sU, sU] [(.long k270)]))
    refine Gl.go (fun _ hr => zXT_lstore X266.here hx rfl (hb hby d3_539) rfl (l' := #[.val (.ref x), sJ cn, sS, sJ 0, sS, sJ 1, sS, sJ pt, sS, sJ (fMag cn), sS, sJ (fMag cn), sS, sJ 0, sS, sJ 0, sS, sJ 0, sS, sJ 0, sS, sI 0, sI 0, sJ (fMag cn), sS, sJ 0, sS, sJ 0, sS, sJ 0, sS, sJ (-(fMag cn)), sS, sJ (-1), sS, sJ (-1), sS, sJ (-1), sS, sJ (l0 + (-(fMag cn))), sS, sJ k254, sS, sJ (l1 + (-1 : Int64)), sS, sJ ((l1 + (-1 : Int64)) + k254), sS, sJ k262, sS, sJ (l2 + (-1 : Int64)), sS, sJ ((l2 + (-1 : Int64)) + k262), sS, sJ k270, sS, sU, sU]) rfl (zXS_aloadN X266.here hx rfl (hb hby d3_541) rfl rfl hr)) ?_
    refine gGetF (host := "") Gl.cl X266 hx hZ hown (Or.inl (hw _ (List.mem_of_getElem? (i := 33) rfl))) Via.refl e266 q6 rfl rfl (hb hby d3_542) ?_
    intro T271 X271 e271
    refine Gl.go (fun _ hr => zXT_lload X271.here hx rfl (hb hby d3_545) rfl (zXT_ladd X271.here hx rfl (hb hby d3_547) rfl (zXT_lload X271.here hx rfl (hb hby d3_548) rfl (zXT_ladd X271.here hx rfl (hb hby d3_550) rfl (zXT_lstore X271.here hx rfl (hb hby d3_551) rfl (l' := #[.val (.ref x), sJ cn, sS, sJ 0, sS, sJ 1, sS, sJ pt, sS, sJ (fMag cn), sS, sJ (fMag cn), sS, sJ 0, sS, sJ 0, sS, sJ 0, sS, sJ 0, sS, sI 0, sI 0, sJ (fMag cn), sS, sJ 0, sS, sJ 0, sS, sJ 0, sS, sJ (-(fMag cn)), sS, sJ (-1), sS, sJ (-1), sS, sJ (-1), sS, sJ (l0 + (-(fMag cn))), sS, sJ k254, sS, sJ (l1 + (-1 : Int64)), sS, sJ ((l1 + (-1 : Int64)) + k254), sS, sJ k262, sS, sJ (l2 + (-1 : Int64)), sS, sJ ((l2 + (-1 : Int64)) + k262), sS, sJ k270, sS, sJ ((l3 + (-1 : Int64)) + k270), sS]) rfl (zXS_aloadN X271.here hx rfl (hb hby d3_553) rfl rfl hr)))))) ?_
    refine gGetF (host := "") Gl.cl X271 hx hZ hown (Or.inl (hw _ (List.mem_of_getElem? (i := 33) rfl))) Via.refl e271 q6 rfl rfl (hb hby d3_554) ?_
    intro T272 X272 e272
    refine Gl.go (fun _ hr => zXT_lload X272.here hx rfl (hb hby d3_557) rfl (zXT_lxor X272.here hx rfl (hb hby d3_559) rfl (zXT_lload X272.here hx rfl (hb hby d3_560) rfl (zXT_lload X272.here hx rfl (hb hby d3_562) rfl (zXT_lxor X272.here hx rfl (hb hby d3_564) rfl (zXT_land X272.here hx rfl (hb hby d3_565) rfl (zXT_lconst X272.here hx rfl (hb hby d3_566) (zXT_lcmp X272.here hx rfl (hb hby d3_567) rfl hr)))))))) ?_
    refine Gl.go (fun _ hr => zXS_ifYes X272.here hx rfl (pc0 := 568) (pc' := 581) rfl (hb hby d3_568) rfl (XT.ll_ge_t (own_ov hl3 hq_k270_ (Or.inr rfl))) (by decide) (by decide) (zXS_aloadN X272.here hx rfl (hb hby d3_581) rfl rfl (zXT_lload X272.here hx rfl (hb hby d3_582) rfl hr))) ?_
    refine gPutF (host := "") Gl.cl X272 hx hZ hown (Or.inl (hw _ (List.mem_of_getElem? (i := 27) rfl))) Via.refl e272 q3 q0 (Or.inl (hw _ (List.mem_of_getElem? (i := 28) rfl))) (hw _ (List.mem_of_getElem? (i := 5) rfl)) (ty := .long) (by decide) rfl rfl rfl rfl (hb hby d3_584) ?_
    intro T273 h273 X273 e273 W273
    have z274 : h0.size ≤ h273.size := (Keep.of_wr W273).1
    have Fw273 := q3.same W273
    have N273 := Fr.snoc X273 N266 (own_ale (by omega))
    refine Gl.go (fun _ hr => zXS_aloadN X273.here hx rfl (hb hby d3_587) rfl rfl (zXT_lload X273.here hx rfl (hb hby d3_588) rfl hr)) ?_
    have Fc275 := (q4.other W273 (Or.inr (slot_ne (Or.inl (hw _ (List.mem_of_getElem? (i := 30) rfl))) (Or.inl (hw _ (List.mem_of_getElem? (i := 28) rfl))) (by decide) (t := .long) (t' := .long) (by decide) (by decide))))
    have Ec276 := (q0.wr W273)
    refine gPutF (host := "") Gl.cl X273 hx hZ hown (Or.inl (hw _ (List.mem_of_getElem? (i := 29) rfl))) Via.refl e273 Fc275 Ec276 (Or.inl (hw _ (List.mem_of_getElem? (i := 30) rfl))) (hw _ (List.mem_of_getElem? (i := 5) rfl)) (ty := .long) (by decide) rfl rfl rfl rfl (hb hby d3_590) ?_
    intro T277 h277 X277 e277 W277
    have z278 : h273.size ≤ h277.size := (Keep.of_wr W277).1
    have Fw277 := Fc275.same W277
    have N277 := Fr.snoc X277 N273 (own_ale (by omega))
    refine Gl.go (fun _ hr => zXS_aloadN X277.here hx rfl (hb hby d3_593) rfl rfl (zXT_lload X277.here hx rfl (hb hby d3_594) rfl hr)) ?_
    have Fc279 := ((q5.other W273 (Or.inr (slot_ne (Or.inl (hw _ (List.mem_of_getElem? (i := 32) rfl))) (Or.inl (hw _ (List.mem_of_getElem? (i := 28) rfl))) (by decide) (t := .long) (t' := .long) (by decide) (by decide)))).other W277 (Or.inr (slot_ne (Or.inl (hw _ (List.mem_of_getElem? (i := 32) rfl))) (Or.inl (hw _ (List.mem_of_getElem? (i := 30) rfl))) (by decide) (t := .long) (t' := .long) (by decide) (by decide))))
    have Ec280 := (Ec276.wr W277)
    refine gPutF (host := "") Gl.cl X277 hx hZ hown (Or.inl (hw _ (List.mem_of_getElem? (i := 31) rfl))) Via.refl e277 Fc279 Ec280 (Or.inl (hw _ (List.mem_of_getElem? (i := 32) rfl))) (hw _ (List.mem_of_getElem? (i := 5) rfl)) (ty := .long) (by decide) rfl rfl rfl rfl (hb hby d3_596) ?_
    intro T281 h281 X281 e281 W281
    have z282 : h277.size ≤ h281.size := (Keep.of_wr W281).1
    have Fw281 := Fc279.same W281
    have N281 := Fr.snoc X281 N277 (own_ale (by omega))
    refine Gl.go (fun _ hr => zXS_aloadN X281.here hx rfl (hb hby d3_599) rfl rfl (zXT_lload X281.here hx rfl (hb hby d3_600) rfl hr)) ?_
    have Fc283 := (((q6.other W273 (Or.inr (slot_ne (Or.inl (hw _ (List.mem_of_getElem? (i := 34) rfl))) (Or.inl (hw _ (List.mem_of_getElem? (i := 28) rfl))) (by decide) (t := .long) (t' := .long) (by decide) (by decide)))).other W277 (Or.inr (slot_ne (Or.inl (hw _ (List.mem_of_getElem? (i := 34) rfl))) (Or.inl (hw _ (List.mem_of_getElem? (i := 30) rfl))) (by decide) (t := .long) (t' := .long) (by decide) (by decide)))).other W281 (Or.inr (slot_ne (Or.inl (hw _ (List.mem_of_getElem? (i := 34) rfl))) (Or.inl (hw _ (List.mem_of_getElem? (i := 32) rfl))) (by decide) (t := .long) (t' := .long) (by decide) (by decide))))
    have Ec284 := (Ec280.wr W281)
    refine gPutF (host := "") Gl.cl X281 hx hZ hown (Or.inl (hw _ (List.mem_of_getElem? (i := 33) rfl))) Via.refl e281 Fc283 Ec284 (Or.inl (hw _ (List.mem_of_getElem? (i := 34) rfl))) (hw _ (List.mem_of_getElem? (i := 5) rfl)) (ty := .long) (by decide) rfl rfl rfl rfl (hb hby d3_602) ?_
    intro T285 h285 X285 e285 W285
    have z286 : h281.size ≤ h285.size := (Keep.of_wr W285).1
    have Fw285 := Fc283.same W285
    have N285 := Fr.snoc X285 N281 (own_ale (by omega))
    refine Gl.go (fun _ hr => zXS_aloadN X285.here hx rfl (hb hby d3_605) rfl rfl (zXS_iconst X285.here hx rfl (hb hby d3_606) hr)) ?_
    have Fc287 := ((((q7.other W273 (Or.inr (slot_ne (Or.inl (hw _ (List.mem_of_getElem? (i := 66) rfl))) (Or.inl (hw _ (List.mem_of_getElem? (i := 28) rfl))) (by decide) (t := .boolean) (t' := .long) (by decide) (by decide)))).other W277 (Or.inr (slot_ne (Or.inl (hw _ (List.mem_of_getElem? (i := 66) rfl))) (Or.inl (hw _ (List.mem_of_getElem? (i := 30) rfl))) (by decide) (t := .boolean) (t' := .long) (by decide) (by decide)))).other W281 (Or.inr (slot_ne (Or.inl (hw _ (List.mem_of_getElem? (i := 66) rfl))) (Or.inl (hw _ (List.mem_of_getElem? (i := 32) rfl))) (by decide) (t := .boolean) (t' := .long) (by decide) (by decide)))).other W285 (Or.inr (slot_ne (Or.inl (hw _ (List.mem_of_getElem? (i := 66) rfl))) (Or.inl (hw _ (List.mem_of_getElem? (i := 34) rfl))) (by decide) (t := .boolean) (t' := .long) (by decide) (by decide))))
    have Ec288 := (Ec284.wr W285)
    refine gPutF (host := "") Gl.cl X285 hx hZ hown (Or.inl (hw _ (List.mem_of_getElem? (i := 65) rfl))) Via.refl e285 Fc287 Ec288 (Or.inl (hw _ (List.mem_of_getElem? (i := 66) rfl))) (hw _ (List.mem_of_getElem? (i := 5) rfl)) (ty := .boolean) (by decide) rfl rfl rfl rfl (hb hby d3_607) ?_
    intro T289 h289 X289 e289 W289
    have z290 : h285.size ≤ h289.size := (Keep.of_wr W289).1
    have Fw289 := Fc287.same W289
    have N289 := Fr.snoc X289 N285 (own_ale (by omega))
    have Ec291 := (Ec288.wr W289)
    have Fc292 := (((((q2.other W273 (Or.inr (slot_ne (Or.inl (hw _ (List.mem_of_getElem? (i := 15) rfl))) (Or.inl (hw _ (List.mem_of_getElem? (i := 28) rfl))) (by decide) (t := .long) (t' := .long) (by decide) (by decide)))).other W277 (Or.inr (slot_ne (Or.inl (hw _ (List.mem_of_getElem? (i := 15) rfl))) (Or.inl (hw _ (List.mem_of_getElem? (i := 30) rfl))) (by decide) (t := .long) (t' := .long) (by decide) (by decide)))).other W281 (Or.inr (slot_ne (Or.inl (hw _ (List.mem_of_getElem? (i := 15) rfl))) (Or.inl (hw _ (List.mem_of_getElem? (i := 32) rfl))) (by decide) (t := .long) (t' := .long) (by decide) (by decide)))).other W285 (Or.inr (slot_ne (Or.inl (hw _ (List.mem_of_getElem? (i := 15) rfl))) (Or.inl (hw _ (List.mem_of_getElem? (i := 34) rfl))) (by decide) (t := .long) (t' := .long) (by decide) (by decide)))).other W289 (Or.inr (slot_ne (Or.inl (hw _ (List.mem_of_getElem? (i := 15) rfl))) (Or.inl (hw _ (List.mem_of_getElem? (i := 66) rfl))) (by decide) (t := .long) (t' := .boolean) (by decide) (by decide))))
    have Fc293 := ((((Fw273.other W277 (Or.inr (slot_ne (Or.inl (hw _ (List.mem_of_getElem? (i := 28) rfl))) (Or.inl (hw _ (List.mem_of_getElem? (i := 30) rfl))) (by decide) (t := .long) (t' := .long) (by decide) (by decide)))).other W281 (Or.inr (slot_ne (Or.inl (hw _ (List.mem_of_getElem? (i := 28) rfl))) (Or.inl (hw _ (List.mem_of_getElem? (i := 32) rfl))) (by decide) (t := .long) (t' := .long) (by decide) (by decide)))).other W285 (Or.inr (slot_ne (Or.inl (hw _ (List.mem_of_getElem? (i := 28) rfl))) (Or.inl (hw _ (List.mem_of_getElem? (i := 34) rfl))) (by decide) (t := .long) (t' := .long) (by decide) (by decide)))).other W289 (Or.inr (slot_ne (Or.inl (hw _ (List.mem_of_getElem? (i := 28) rfl))) (Or.inl (hw _ (List.mem_of_getElem? (i := 66) rfl))) (by decide) (t := .long) (t' := .boolean) (by decide) (by decide))))
    have Fc294 := (((Fw277.other W281 (Or.inr (slot_ne (Or.inl (hw _ (List.mem_of_getElem? (i := 30) rfl))) (Or.inl (hw _ (List.mem_of_getElem? (i := 32) rfl))) (by decide) (t := .long) (t' := .long) (by decide) (by decide)))).other W285 (Or.inr (slot_ne (Or.inl (hw _ (List.mem_of_getElem? (i := 30) rfl))) (Or.inl (hw _ (List.mem_of_getElem? (i := 34) rfl))) (by decide) (t := .long) (t' := .long) (by decide) (by decide)))).other W289 (Or.inr (slot_ne (Or.inl (hw _ (List.mem_of_getElem? (i := 30) rfl))) (Or.inl (hw _ (List.mem_of_getElem? (i := 66) rfl))) (by decide) (t := .long) (t' := .boolean) (by decide) (by decide))))
    have Fc295 := ((Fw281.other W285 (Or.inr (slot_ne (Or.inl (hw _ (List.mem_of_getElem? (i := 32) rfl))) (Or.inl (hw _ (List.mem_of_getElem? (i := 34) rfl))) (by decide) (t := .long) (t' := .long) (by decide) (by decide)))).other W289 (Or.inr (slot_ne (Or.inl (hw _ (List.mem_of_getElem? (i := 32) rfl))) (Or.inl (hw _ (List.mem_of_getElem? (i := 66) rfl))) (by decide) (t := .long) (t' := .boolean) (by decide) (by decide))))
    have Fc296 := (Fw285.other W289 (Or.inr (slot_ne (Or.inl (hw _ (List.mem_of_getElem? (i := 34) rfl))) (Or.inl (hw _ (List.mem_of_getElem? (i := 66) rfl))) (by decide) (t := .long) (t' := .boolean) (by decide) (by decide))))
    obtain ⟨fs, hr, hrun, hended, hW, hsame⟩ := X289.leave (v := none) (fun _ => rfl)
    refine ⟨_, _, X289.returnOut hx Bd.returns (hb hby d3_610) hr, hrun, hended, _, _, rfl, ?_, ⟨⟨_, rfl⟩, hW, hsame.mono (by decide) (by decide)⟩⟩
    show QaddB0 Z x cn pt l0 l1 l2 l3 h0 n0 _ T289.heap _
    rw [e289]
    exact ⟨(l0 + (-(fMag cn))), ((l1 + (-1 : Int64)) + k254), ((l2 + (-1 : Int64)) + k262), ((l3 + (-1 : Int64)) + k270), rfl, N289, ((((((Keep.refl h0 [x]).wr W273 (Or.inl (by simp))).wr W277 (Or.inl (by simp))).wr W281 (Or.inl (by simp))).wr W285 (Or.inl (by simp))).wr W289 (Or.inl (by simp))), Ec291, Fc292, Fc293, Fc294, Fc295, Fc296, Fw289, (own_add_ne hneg)⟩
  · refine Gl.go (fun _ hr => zXS_ifYes X247.here hx rfl (pc0 := 321) (pc' := 423) rfl (hb hby d3_321) rfl (XT.ll_ge_t hc248) (by decide) (by decide) (zXS_aloadN X247.here hx rfl (hb hby d3_423) rfl rfl hr)) ?_
    refine gGetF (host := "") Gl.cl X247 hx hZ hown (Or.inl (hw _ (List.mem_of_getElem? (i := 27) rfl))) Via.refl e247 q3 rfl rfl (hb hby d3_424) ?_
    intro T297 X297 e297
    refine Gl.go (fun _ hr => zXT_lload X297.here hx rfl (hb hby d3_427) rfl (zXT_ladd X297.here hx rfl (hb hby d3_429) rfl (zXT_lstore X297.here hx rfl (hb hby d3_430) rfl (l' := #[.val (.ref x), sJ cn, sS, sJ 0, sS, sJ 1, sS, sJ pt, sS, sJ (fMag cn), sS, sJ (fMag cn), sS, sJ 0, sS, sJ 0, sS, sJ 0, sS, sJ 0, sS, sI 0, sI 0, sJ (fMag cn), sS, sJ 0, sS, sJ 0, sS, sJ 0, sS, sJ (fMag cn), sS, sJ 0, sS, sJ 0, sS, sJ 0, sS, sJ (l0 + (fMag cn)), sS, sU, sU, sU, sU, sU, sU, sU, sU, sU, sU, sU, sU, sU, sU, sU, sU]) rfl (zXT_lload X297.here hx rfl (hb hby d3_432) rfl (zXS_aloadN X297.here hx rfl (hb hby d3_434) rfl rfl hr))))) ?_
    refine gGetF (host := "") Gl.cl X297 hx hZ hown (Or.inl (hw _ (List.mem_of_getElem? (i := 27) rfl))) Via.refl e297 q3 rfl rfl (hb hby d3_435) ?_
    intro T298 X298 e298
    have zz299 : n0 ≤ h0.size := by omega
    refine gStaticN Gl.cl (y := (⟨"java/lang/Long", "compareUnsigned", "(JJ)I"⟩ : MethodName)) (argsL := [(.long (l0 + (fMag cn))), (.long l0)]) (rest := []) (mc := 0) (ms := 0) X298 hx hZ hown (mvT hZ (hw _ (List.mem_of_getElem? (i := 46) rfl))) (mvT hZ (hw _ (List.mem_of_getElem? (i := 47) rfl))) (mvT hZ (hw _ (List.mem_of_getElem? (i := 48) rfl))) (mvT hZ (hw _ (List.mem_of_getElem? (i := 49) rfl))) (by decide) (backOf (W := 0) (cum l Z a0 hw [] (l0 + (fMag cn)) l0 h0 n0 zz299 ) hZ (hw _ (List.mem_of_getElem? (i := 49) rfl)) (hw _ (List.mem_of_getElem? (i := 48) rfl)) (by decide) (by decide)) rfl (by rw [hml]; rfl) (lenOf pd_1 rfl) rfl (by show 2 * 0 + _ ≤ _; exact Nat.le_of_eq rfl) (hb hby d3_438) rfl e298 (by decide) (by decide) ?_
    intro v299 T299 Lc299 hQ299 X299
    obtain ⟨rfl, Nq299, e299⟩ := hQ299
    have N299 := Fr.app N247 Nq299
    obtain ⟨T300, ⟨lc300, N300, X300, e300⟩, st300⟩ : Sg (fun U => ∃ lc, Fr n0 lc ∧ Stand p l e ({ frames := 2, cells := 0, slots := 0, locals := 50 } : Room) s m #[(.ref x), (.long cn), (.long (0 : Int64)), (.long (1 : Int64)), (.long pt)] below meth c U lc 0 0 ∧ U.heap = h0) (mkF m 449 #[.val (.ref x), sJ cn, sS, sJ 0, sS, sJ 1, sS, sJ pt, sS, sJ (fMag cn), sS, sJ (fMag cn), sS, sJ 0, sS, sJ 0, sS, sJ 0, sS, sJ 0, sS, sI 0, sI 0, sJ (fMag cn), sS, sJ 0, sS, sJ 0, sS, sJ 0, sS, sJ (fMag cn), sS, sJ 0, sS, sJ 0, sS, sJ 0, sS, sJ (l0 + (fMag cn)), sS, sU, sU, sU, sU, sU, sU, sU, sU, sU, sU, sU, sU, sU, sU, sU, sU] [(.long (if cu (l0 + (fMag cn)) l0 < 0 then (1 : Int64) else 0))]) p.tables e below (T299.setTop (mkF m 441 #[.val (.ref x), sJ cn, sS, sJ 0, sS, sJ 1, sS, sJ pt, sS, sJ (fMag cn), sS, sJ (fMag cn), sS, sJ 0, sS, sJ 0, sS, sJ 0, sS, sJ 0, sS, sI 0, sI 0, sJ (fMag cn), sS, sJ 0, sS, sJ 0, sS, sJ 0, sS, sJ (fMag cn), sS, sJ 0, sS, sJ 0, sS, sJ 0, sS, sJ (l0 + (fMag cn)), sS, sU, sU, sU, sU, sU, sU, sU, sU, sU, sU, sU, sU, sU, sU, sU, sU] [(.int (cu (l0 + (fMag cn)) l0))])) := by
      by_cases hc301 : (cu (l0 + (fMag cn)) l0) < (0 : Int32)
      · refine Sg.go (fun _ hr => zXS_ifNo X299.here hx rfl (hb hby d3_441) rfl (XT.i0_ge_f hc301) (zXT_lconst X299.here hx rfl (hb hby d3_444) (zXS_goto X299.here hx rfl (pc0 := 445) (pc' := 449) rfl (hb hby d3_445) (by decide) (by decide) hr))) ?_
        show Sg _ _ p.tables e below (T299.setTop (mkF m 449 #[.val (.ref x), sJ cn, sS, sJ 0, sS, sJ 1, sS, sJ pt, sS, sJ (fMag cn), sS, sJ (fMag cn), sS, sJ 0, sS, sJ 0, sS, sJ 0, sS, sJ 0, sS, sI 0, sI 0, sJ (fMag cn), sS, sJ 0, sS, sJ 0, sS, sJ 0, sS, sJ (fMag cn), sS, sJ 0, sS, sJ 0, sS, sJ 0, sS, sJ (l0 + (fMag cn)), sS, sU, sU, sU, sU, sU, sU, sU, sU, sU, sU, sU, sU, sU, sU, sU, sU] [(.long (1 : Int64))]))
        exact ⟨T299, ⟨_, N299, X299, e299⟩, fun _ hr => by rw [if_pos hc301] at hr; exact hr⟩
      · refine Sg.go (fun _ hr => zXS_ifYes X299.here hx rfl (pc0 := 441) (pc' := 448) rfl (hb hby d3_441) rfl (XT.i0_ge_t hc301) (by decide) (by decide) (zXT_lconst X299.here hx rfl (hb hby d3_448) hr)) ?_
        show Sg _ _ p.tables e below (T299.setTop (mkF m 449 #[.val (.ref x), sJ cn, sS, sJ 0, sS, sJ 1, sS, sJ pt, sS, sJ (fMag cn), sS, sJ (fMag cn), sS, sJ 0, sS, sJ 0, sS, sJ 0, sS, sJ 0, sS, sI 0, sI 0, sJ (fMag cn), sS, sJ 0, sS, sJ 0, sS, sJ 0, sS, sJ (fMag cn), sS, sJ 0, sS, sJ 0, sS, sJ 0, sS, sJ (l0 + (fMag cn)), sS, sU, sU, sU, sU, sU, sU, sU, sU, sU, sU, sU, sU, sU, sU, sU, sU] [(.long (0 : Int64))]))
        exact ⟨T299, ⟨_, N299, X299, e299⟩, fun _ hr => by rw [if_neg hc301] at hr; exact hr⟩
    refine Gl.go st300 ?_
    show Gl p.tables e below _ (T300.setTop (mkF m 449 #[.val (.ref x), sJ cn, sS, sJ 0, sS, sJ 1, sS, sJ pt, sS, sJ (fMag cn), sS, sJ (fMag cn), sS, sJ 0, sS, sJ 0, sS, sJ 0, sS, sJ 0, sS, sI 0, sI 0, sJ (fMag cn), sS, sJ 0, sS, sJ 0, sS, sJ 0, sS, sJ (fMag cn), sS, sJ 0, sS, sJ 0, sS, sJ 0, sS, sJ (l0 + (fMag cn)), sS, sU, sU, sU, sU, sU, sU, sU, sU, sU, sU, sU, sU, sU, sU, sU, sU] [(.long (if cu (l0 + (fMag cn)) l0 < 0 then (1 : Int64) else 0))]))
    obtain ⟨k302, hq_k302⟩ : ∃ q, q = (if cu (l0 + (fMag cn)) l0 < 0 then (1 : Int64) else 0) := ⟨_, rfl⟩
    rw [← hq_k302]
    have hq_k302_ : k302 = 0 ∨ k302 = 1 := by rw [hq_k302]; exact own_k01
    show Gl p.tables e below _ (T300.setTop (mkF m 449 #[.val (.ref x), sJ cn, sS, sJ 0, sS, sJ 1, sS, sJ pt, sS, sJ (fMag cn), sS, sJ (fMag cn), sS, sJ 0, sS, sJ 0, sS, sJ 0, sS, sJ 0, sS, sI 0, sI 0, sJ (fMag cn), sS, sJ 0, sS, sJ 0, sS, sJ 0, sS, sJ (fMag cn), sS, sJ 0, sS, sJ 0, sS, sJ 0, sS, sJ (l0 + (fMag cn)), sS, sU, sU, sU, sU, sU, sU, sU, sU, sU, sU, sU, sU, sU, sU, sU, sU] [(.long k302)]))
    refine Gl.go (fun _ hr => zXT_lstore X300.here hx rfl (hb hby d3_449) rfl (l' := #[.val (.ref x), sJ cn, sS, sJ 0, sS, sJ 1, sS, sJ pt, sS, sJ (fMag cn), sS, sJ (fMag cn), sS, sJ 0, sS, sJ 0, sS, sJ 0, sS, sJ 0, sS, sI 0, sI 0, sJ (fMag cn), sS, sJ 0, sS, sJ 0, sS, sJ 0, sS, sJ (fMag cn), sS, sJ 0, sS, sJ 0, sS, sJ 0, sS, sJ (l0 + (fMag cn)), sS, sJ k302, sS, sU, sU, sU, sU, sU, sU, sU, sU, sU, sU, sU, sU, sU, sU]) rfl (zXS_aloadN X300.here hx rfl (hb hby d3_451) rfl rfl hr)) ?_
    refine gGetF (host := "") Gl.cl X300 hx hZ hown (Or.inl (hw _ (List.mem_of_getElem? (i := 29) rfl))) Via.refl e300 q4 rfl rfl (hb hby d3_452) ?_
    intro T303 X303 e303
    refine Gl.go (fun _ hr => zXT_lload X303.here hx rfl (hb hby d3_455) rfl (zXT_ladd X303.here hx rfl (hb hby d3_457) rfl (zXT_lstore X303.here hx rfl (hb hby d3_458) rfl (l' := #[.val (.ref x), sJ cn, sS, sJ 0, sS, sJ 1, sS, sJ pt, sS, sJ (fMag cn), sS, sJ (fMag cn), sS, sJ 0, sS, sJ 0, sS, sJ 0, sS, sJ 0, sS, sI 0, sI 0, sJ (fMag cn), sS, sJ 0, sS, sJ 0, sS, sJ 0, sS, sJ (fMag cn), sS, sJ 0, sS, sJ 0, sS, sJ 0, sS, sJ (l0 + (fMag cn)), sS, sJ k302, sS, sJ (l1 + (0 : Int64)), sS, sU, sU, sU, sU, sU, sU, sU, sU, sU, sU, sU, sU]) rfl (zXT_lload X303.here hx rfl (hb hby d3_460) rfl (zXT_lload X303.here hx rfl (hb hby d3_462) rfl (zXT_ladd X303.here hx rfl (hb hby d3_464) rfl (zXT_lstore X303.here hx rfl (hb hby d3_465) rfl (l' := #[.val (.ref x), sJ cn, sS, sJ 0, sS, sJ 1, sS, sJ pt, sS, sJ (fMag cn), sS, sJ (fMag cn), sS, sJ 0, sS, sJ 0, sS, sJ 0, sS, sJ 0, sS, sI 0, sI 0, sJ (fMag cn), sS, sJ 0, sS, sJ 0, sS, sJ 0, sS, sJ (fMag cn), sS, sJ 0, sS, sJ 0, sS, sJ 0, sS, sJ (l0 + (fMag cn)), sS, sJ k302, sS, sJ (l1 + (0 : Int64)), sS, sJ ((l1 + (0 : Int64)) + k302), sS, sU, sU, sU, sU, sU, sU, sU, sU, sU, sU]) rfl (zXT_lload X303.here hx rfl (hb hby d3_467) rfl (zXS_aloadN X303.here hx rfl (hb hby d3_469) rfl rfl hr))))))))) ?_
    refine gGetF (host := "") Gl.cl X303 hx hZ hown (Or.inl (hw _ (List.mem_of_getElem? (i := 29) rfl))) Via.refl e303 q4 rfl rfl (hb hby d3_470) ?_
    intro T304 X304 e304
    have zz305 : n0 ≤ h0.size := by omega
    refine gStaticN Gl.cl (y := (⟨"java/lang/Long", "compareUnsigned", "(JJ)I"⟩ : MethodName)) (argsL := [(.long (l1 + (0 : Int64))), (.long l1)]) (rest := []) (mc := 0) (ms := 0) X304 hx hZ hown (mvT hZ (hw _ (List.mem_of_getElem? (i := 46) rfl))) (mvT hZ (hw _ (List.mem_of_getElem? (i := 47) rfl))) (mvT hZ (hw _ (List.mem_of_getElem? (i := 48) rfl))) (mvT hZ (hw _ (List.mem_of_getElem? (i := 49) rfl))) (by decide) (backOf (W := 0) (cum l Z a0 hw [] (l1 + (0 : Int64)) l1 h0 n0 zz305 ) hZ (hw _ (List.mem_of_getElem? (i := 49) rfl)) (hw _ (List.mem_of_getElem? (i := 48) rfl)) (by decide) (by decide)) rfl (by rw [hml]; rfl) (lenOf pd_1 rfl) rfl (by show 2 * 0 + _ ≤ _; exact Nat.le_of_eq rfl) (hb hby d3_473) rfl e304 (by decide) (by decide) ?_
    intro v305 T305 Lc305 hQ305 X305
    obtain ⟨rfl, Nq305, e305⟩ := hQ305
    have N305 := Fr.app N300 Nq305
    obtain ⟨T306, ⟨lc306, N306, X306, e306⟩, st306⟩ : Sg (fun U => ∃ lc, Fr n0 lc ∧ Stand p l e ({ frames := 2, cells := 0, slots := 0, locals := 50 } : Room) s m #[(.ref x), (.long cn), (.long (0 : Int64)), (.long (1 : Int64)), (.long pt)] below meth c U lc 0 0 ∧ U.heap = h0) (mkF m 494 #[.val (.ref x), sJ cn, sS, sJ 0, sS, sJ 1, sS, sJ pt, sS, sJ (fMag cn), sS, sJ (fMag cn), sS, sJ 0, sS, sJ 0, sS, sJ 0, sS, sJ 0, sS, sI 0, sI 0, sJ (fMag cn), sS, sJ 0, sS, sJ 0, sS, sJ 0, sS, sJ (fMag cn), sS, sJ 0, sS, sJ 0, sS, sJ 0, sS, sJ (l0 + (fMag cn)), sS, sJ k302, sS, sJ (l1 + (0 : Int64)), sS, sJ ((l1 + (0 : Int64)) + k302), sS, sU, sU, sU, sU, sU, sU, sU, sU, sU, sU] [(.long (if cu (l1 + (0 : Int64)) l1 < 0 ∨ cu ((l1 + (0 : Int64)) + k302) (l1 + (0 : Int64)) < 0 then (1 : Int64) else 0))]) p.tables e below (T305.setTop (mkF m 476 #[.val (.ref x), sJ cn, sS, sJ 0, sS, sJ 1, sS, sJ pt, sS, sJ (fMag cn), sS, sJ (fMag cn), sS, sJ 0, sS, sJ 0, sS, sJ 0, sS, sJ 0, sS, sI 0, sI 0, sJ (fMag cn), sS, sJ 0, sS, sJ 0, sS, sJ 0, sS, sJ (fMag cn), sS, sJ 0, sS, sJ 0, sS, sJ 0, sS, sJ (l0 + (fMag cn)), sS, sJ k302, sS, sJ (l1 + (0 : Int64)), sS, sJ ((l1 + (0 : Int64)) + k302), sS, sU, sU, sU, sU, sU, sU, sU, sU, sU, sU] [(.int (cu (l1 + (0 : Int64)) l1))])) := by
      by_cases hc307 : (cu (l1 + (0 : Int64)) l1) < (0 : Int32)
      · refine Sg.go (fun _ hr => zXS_ifYes X305.here hx rfl (pc0 := 476) (pc' := 489) rfl (hb hby d3_476) rfl (XT.i0_lt_t hc307) (by decide) (by decide) (zXT_lconst X305.here hx rfl (hb hby d3_489) (zXS_goto X305.here hx rfl (pc0 := 490) (pc' := 494) rfl (hb hby d3_490) (by decide) (by decide) hr))) ?_
        show Sg _ _ p.tables e below (T305.setTop (mkF m 494 #[.val (.ref x), sJ cn, sS, sJ 0, sS, sJ 1, sS, sJ pt, sS, sJ (fMag cn), sS, sJ (fMag cn), sS, sJ 0, sS, sJ 0, sS, sJ 0, sS, sJ 0, sS, sI 0, sI 0, sJ (fMag cn), sS, sJ 0, sS, sJ 0, sS, sJ 0, sS, sJ (fMag cn), sS, sJ 0, sS, sJ 0, sS, sJ 0, sS, sJ (l0 + (fMag cn)), sS, sJ k302, sS, sJ (l1 + (0 : Int64)), sS, sJ ((l1 + (0 : Int64)) + k302), sS, sU, sU, sU, sU, sU, sU, sU, sU, sU, sU] [(.long (1 : Int64))]))
        exact ⟨T305, ⟨_, N305, X305, e305⟩, fun _ hr => by rw [if_pos (Or.inl hc307)] at hr; exact hr⟩
      · refine Sg.go (fun _ hr => zXS_ifNo X305.here hx rfl (hb hby d3_476) rfl (XT.i0_lt_f hc307) (zXT_lload X305.here hx rfl (hb hby d3_479) rfl (zXT_lload X305.here hx rfl (hb hby d3_481) rfl hr))) ?_
        have zz308 : n0 ≤ h0.size := by omega
        refine gStaticN Sg.cl (y := (⟨"java/lang/Long", "compareUnsigned", "(JJ)I"⟩ : MethodName)) (argsL := [(.long ((l1 + (0 : Int64)) + k302)), (.long (l1 + (0 : Int64)))]) (rest := []) (mc := 0) (ms := 0) X305 hx hZ hown (mvT hZ (hw _ (List.mem_of_getElem? (i := 46) rfl))) (mvT hZ (hw _ (List.mem_of_getElem? (i := 47) rfl))) (mvT hZ (hw _ (List.mem_of_getElem? (i := 48) rfl))) (mvT hZ (hw _ (List.mem_of_getElem? (i := 49) rfl))) (by decide) (backOf (W := 0) (cum l Z a0 hw [] ((l1 + (0 : Int64)) + k302) (l1 + (0 : Int64)) h0 n0 zz308 ) hZ (hw _ (List.mem_of_getElem? (i := 49) rfl)) (hw _ (List.mem_of_getElem? (i := 48) rfl)) (by decide) (by decide)) rfl (by rw [hml]; rfl) (lenOf pd_1 rfl) rfl (by show 2 * 0 + _ ≤ _; exact Nat.le_of_eq rfl) (hb hby d3_483) rfl e305 (by decide) (by decide) ?_
        intro v308 T308 Lc308 hQ308 X308
        obtain ⟨rfl, Nq308, e308⟩ := hQ308
        have N308 := Fr.app N305 Nq308
        by_cases hc309 : (cu ((l1 + (0 : Int64)) + k302) (l1 + (0 : Int64))) < (0 : Int32)
        · refine Sg.go (fun _ hr => zXS_ifNo X308.here hx rfl (hb hby d3_486) rfl (XT.i0_ge_f hc309) (zXT_lconst X308.here hx rfl (hb hby d3_489) (zXS_goto X308.here hx rfl (pc0 := 490) (pc' := 494) rfl (hb hby d3_490) (by decide) (by decide) hr))) ?_
          show Sg _ _ p.tables e below (T308.setTop (mkF m 494 #[.val (.ref x), sJ cn, sS, sJ 0, sS, sJ 1, sS, sJ pt, sS, sJ (fMag cn), sS, sJ (fMag cn), sS, sJ 0, sS, sJ 0, sS, sJ 0, sS, sJ 0, sS, sI 0, sI 0, sJ (fMag cn), sS, sJ 0, sS, sJ 0, sS, sJ 0, sS, sJ (fMag cn), sS, sJ 0, sS, sJ 0, sS, sJ 0, sS, sJ (l0 + (fMag cn)), sS, sJ k302, sS, sJ (l1 + (0 : Int64)), sS, sJ ((l1 + (0 : Int64)) + k302), sS, sU, sU, sU, sU, sU, sU, sU, sU, sU, sU] [(.long (1 : Int64))]))
          exact ⟨T308, ⟨_, N308, X308, e308⟩, fun _ hr => by rw [if_pos (Or.inr hc309)] at hr; exact hr⟩
        · refine Sg.go (fun _ hr => zXS_ifYes X308.here hx rfl (pc0 := 486) (pc' := 493) rfl (hb hby d3_486) rfl (XT.i0_ge_t hc309) (by decide) (by decide) (zXT_lconst X308.here hx rfl (hb hby d3_493) hr)) ?_
          show Sg _ _ p.tables e below (T308.setTop (mkF m 494 #[.val (.ref x), sJ cn, sS, sJ 0, sS, sJ 1, sS, sJ pt, sS, sJ (fMag cn), sS, sJ (fMag cn), sS, sJ 0, sS, sJ 0, sS, sJ 0, sS, sJ 0, sS, sI 0, sI 0, sJ (fMag cn), sS, sJ 0, sS, sJ 0, sS, sJ 0, sS, sJ (fMag cn), sS, sJ 0, sS, sJ 0, sS, sJ 0, sS, sJ (l0 + (fMag cn)), sS, sJ k302, sS, sJ (l1 + (0 : Int64)), sS, sJ ((l1 + (0 : Int64)) + k302), sS, sU, sU, sU, sU, sU, sU, sU, sU, sU, sU] [(.long (0 : Int64))]))
          exact ⟨T308, ⟨_, N308, X308, e308⟩, fun _ hr => by rw [if_neg (not_or.mpr ⟨hc307, hc309⟩)] at hr; exact hr⟩
    refine Gl.go st306 ?_
    show Gl p.tables e below _ (T306.setTop (mkF m 494 #[.val (.ref x), sJ cn, sS, sJ 0, sS, sJ 1, sS, sJ pt, sS, sJ (fMag cn), sS, sJ (fMag cn), sS, sJ 0, sS, sJ 0, sS, sJ 0, sS, sJ 0, sS, sI 0, sI 0, sJ (fMag cn), sS, sJ 0, sS, sJ 0, sS, sJ 0, sS, sJ (fMag cn), sS, sJ 0, sS, sJ 0, sS, sJ 0, sS, sJ (l0 + (fMag cn)), sS, sJ k302, sS, sJ (l1 + (0 : Int64)), sS, sJ ((l1 + (0 : Int64)) + k302), sS, sU, sU, sU, sU, sU, sU, sU, sU, sU, sU] [(.long (if cu (l1 + (0 : Int64)) l1 < 0 ∨ cu ((l1 + (0 : Int64)) + k302) (l1 + (0 : Int64)) < 0 then (1 : Int64) else 0))]))
    obtain ⟨k310, hq_k310⟩ : ∃ q, q = (if cu (l1 + (0 : Int64)) l1 < 0 ∨ cu ((l1 + (0 : Int64)) + k302) (l1 + (0 : Int64)) < 0 then (1 : Int64) else 0) := ⟨_, rfl⟩
    rw [← hq_k310]
    have hq_k310_ : k310 = 0 ∨ k310 = 1 := by rw [hq_k310]; exact own_k01
    show Gl p.tables e below _ (T306.setTop (mkF m 494 #[.val (.ref x), sJ cn, sS, sJ 0, sS, sJ 1, sS, sJ pt, sS, sJ (fMag cn), sS, sJ (fMag cn), sS, sJ 0, sS, sJ 0, sS, sJ 0, sS, sJ 0, sS, sI 0, sI 0, sJ (fMag cn), sS, sJ 0, sS, sJ 0, sS, sJ 0, sS, sJ (fMag cn), sS, sJ 0, sS, sJ 0, sS, sJ 0, sS, sJ (l0 + (fMag cn)), sS, sJ k302, sS, sJ (l1 + (0 : Int64)), sS, sJ ((l1 + (0 : Int64)) + k302), sS, sU, sU, sU, sU, sU, sU, sU, sU, sU, sU] [(.long k310)]))
    refine Gl.go (fun _ hr => zXT_lstore X306.here hx rfl (hb hby d3_494) rfl (l' := #[.val (.ref x), sJ cn, sS, sJ 0, sS, sJ 1, sS, sJ pt, sS, sJ (fMag cn), sS, sJ (fMag cn), sS, sJ 0, sS, sJ 0, sS, sJ 0, sS, sJ 0, sS, sI 0, sI 0, sJ (fMag cn), sS, sJ 0, sS, sJ 0, sS, sJ 0, sS, sJ (fMag cn), sS, sJ 0, sS, sJ 0, sS, sJ 0, sS, sJ (l0 + (fMag cn)), sS, sJ k302, sS, sJ (l1 + (0 : Int64)), sS, sJ ((l1 + (0 : Int64)) + k302), sS, sJ k310, sS, sU, sU, sU, sU, sU, sU, sU, sU]) rfl (zXS_aloadN X306.here hx rfl (hb hby d3_496) rfl rfl hr)) ?_
    refine gGetF (host := "") Gl.cl X306 hx hZ hown (Or.inl (hw _ (List.mem_of_getElem? (i := 31) rfl))) Via.refl e306 q5 rfl rfl (hb hby d3_497) ?_
    intro T311 X311 e311
    refine Gl.go (fun _ hr => zXT_lload X311.here hx rfl (hb hby d3_500) rfl (zXT_ladd X311.here hx rfl (hb hby d3_502) rfl (zXT_lstore X311.here hx rfl (hb hby d3_503) rfl (l' := #[.val (.ref x), sJ cn, sS, sJ 0, sS, sJ 1, sS, sJ pt, sS, sJ (fMag cn), sS, sJ (fMag cn), sS, sJ 0, sS, sJ 0, sS, sJ 0, sS, sJ 0, sS, sI 0, sI 0, sJ (fMag cn), sS, sJ 0, sS, sJ 0, sS, sJ 0, sS, sJ (fMag cn), sS, sJ 0, sS, sJ 0, sS, sJ 0, sS, sJ (l0 + (fMag cn)), sS, sJ k302, sS, sJ (l1 + (0 : Int64)), sS, sJ ((l1 + (0 : Int64)) + k302), sS, sJ k310, sS, sJ (l2 + (0 : Int64)), sS, sU, sU, sU, sU, sU, sU]) rfl (zXT_lload X311.here hx rfl (hb hby d3_505) rfl (zXT_lload X311.here hx rfl (hb hby d3_507) rfl (zXT_ladd X311.here hx rfl (hb hby d3_509) rfl (zXT_lstore X311.here hx rfl (hb hby d3_510) rfl (l' := #[.val (.ref x), sJ cn, sS, sJ 0, sS, sJ 1, sS, sJ pt, sS, sJ (fMag cn), sS, sJ (fMag cn), sS, sJ 0, sS, sJ 0, sS, sJ 0, sS, sJ 0, sS, sI 0, sI 0, sJ (fMag cn), sS, sJ 0, sS, sJ 0, sS, sJ 0, sS, sJ (fMag cn), sS, sJ 0, sS, sJ 0, sS, sJ 0, sS, sJ (l0 + (fMag cn)), sS, sJ k302, sS, sJ (l1 + (0 : Int64)), sS, sJ ((l1 + (0 : Int64)) + k302), sS, sJ k310, sS, sJ (l2 + (0 : Int64)), sS, sJ ((l2 + (0 : Int64)) + k310), sS, sU, sU, sU, sU]) rfl (zXT_lload X311.here hx rfl (hb hby d3_512) rfl (zXS_aloadN X311.here hx rfl (hb hby d3_514) rfl rfl hr))))))))) ?_
    refine gGetF (host := "") Gl.cl X311 hx hZ hown (Or.inl (hw _ (List.mem_of_getElem? (i := 31) rfl))) Via.refl e311 q5 rfl rfl (hb hby d3_515) ?_
    intro T312 X312 e312
    have zz313 : n0 ≤ h0.size := by omega
    refine gStaticN Gl.cl (y := (⟨"java/lang/Long", "compareUnsigned", "(JJ)I"⟩ : MethodName)) (argsL := [(.long (l2 + (0 : Int64))), (.long l2)]) (rest := []) (mc := 0) (ms := 0) X312 hx hZ hown (mvT hZ (hw _ (List.mem_of_getElem? (i := 46) rfl))) (mvT hZ (hw _ (List.mem_of_getElem? (i := 47) rfl))) (mvT hZ (hw _ (List.mem_of_getElem? (i := 48) rfl))) (mvT hZ (hw _ (List.mem_of_getElem? (i := 49) rfl))) (by decide) (backOf (W := 0) (cum l Z a0 hw [] (l2 + (0 : Int64)) l2 h0 n0 zz313 ) hZ (hw _ (List.mem_of_getElem? (i := 49) rfl)) (hw _ (List.mem_of_getElem? (i := 48) rfl)) (by decide) (by decide)) rfl (by rw [hml]; rfl) (lenOf pd_1 rfl) rfl (by show 2 * 0 + _ ≤ _; exact Nat.le_of_eq rfl) (hb hby d3_518) rfl e312 (by decide) (by decide) ?_
    intro v313 T313 Lc313 hQ313 X313
    obtain ⟨rfl, Nq313, e313⟩ := hQ313
    have N313 := Fr.app N306 Nq313
    obtain ⟨T314, ⟨lc314, N314, X314, e314⟩, st314⟩ : Sg (fun U => ∃ lc, Fr n0 lc ∧ Stand p l e ({ frames := 2, cells := 0, slots := 0, locals := 50 } : Room) s m #[(.ref x), (.long cn), (.long (0 : Int64)), (.long (1 : Int64)), (.long pt)] below meth c U lc 0 0 ∧ U.heap = h0) (mkF m 539 #[.val (.ref x), sJ cn, sS, sJ 0, sS, sJ 1, sS, sJ pt, sS, sJ (fMag cn), sS, sJ (fMag cn), sS, sJ 0, sS, sJ 0, sS, sJ 0, sS, sJ 0, sS, sI 0, sI 0, sJ (fMag cn), sS, sJ 0, sS, sJ 0, sS, sJ 0, sS, sJ (fMag cn), sS, sJ 0, sS, sJ 0, sS, sJ 0, sS, sJ (l0 + (fMag cn)), sS, sJ k302, sS, sJ (l1 + (0 : Int64)), sS, sJ ((l1 + (0 : Int64)) + k302), sS, sJ k310, sS, sJ (l2 + (0 : Int64)), sS, sJ ((l2 + (0 : Int64)) + k310), sS, sU, sU, sU, sU] [(.long (if cu (l2 + (0 : Int64)) l2 < 0 ∨ cu ((l2 + (0 : Int64)) + k310) (l2 + (0 : Int64)) < 0 then (1 : Int64) else 0))]) p.tables e below (T313.setTop (mkF m 521 #[.val (.ref x), sJ cn, sS, sJ 0, sS, sJ 1, sS, sJ pt, sS, sJ (fMag cn), sS, sJ (fMag cn), sS, sJ 0, sS, sJ 0, sS, sJ 0, sS, sJ 0, sS, sI 0, sI 0, sJ (fMag cn), sS, sJ 0, sS, sJ 0, sS, sJ 0, sS, sJ (fMag cn), sS, sJ 0, sS, sJ 0, sS, sJ 0, sS, sJ (l0 + (fMag cn)), sS, sJ k302, sS, sJ (l1 + (0 : Int64)), sS, sJ ((l1 + (0 : Int64)) + k302), sS, sJ k310, sS, sJ (l2 + (0 : Int64)), sS, sJ ((l2 + (0 : Int64)) + k310), sS, sU, sU, sU, sU] [(.int (cu (l2 + (0 : Int64)) l2))])) := by
      by_cases hc315 : (cu (l2 + (0 : Int64)) l2) < (0 : Int32)
      · refine Sg.go (fun _ hr => zXS_ifYes X313.here hx rfl (pc0 := 521) (pc' := 534) rfl (hb hby d3_521) rfl (XT.i0_lt_t hc315) (by decide) (by decide) (zXT_lconst X313.here hx rfl (hb hby d3_534) (zXS_goto X313.here hx rfl (pc0 := 535) (pc' := 539) rfl (hb hby d3_535) (by decide) (by decide) hr))) ?_
        show Sg _ _ p.tables e below (T313.setTop (mkF m 539 #[.val (.ref x), sJ cn, sS, sJ 0, sS, sJ 1, sS, sJ pt, sS, sJ (fMag cn), sS, sJ (fMag cn), sS, sJ 0, sS, sJ 0, sS, sJ 0, sS, sJ 0, sS, sI 0, sI 0, sJ (fMag cn), sS, sJ 0, sS, sJ 0, sS, sJ 0, sS, sJ (fMag cn), sS, sJ 0, sS, sJ 0, sS, sJ 0, sS, sJ (l0 + (fMag cn)), sS, sJ k302, sS, sJ (l1 + (0 : Int64)), sS, sJ ((l1 + (0 : Int64)) + k302), sS, sJ k310, sS, sJ (l2 + (0 : Int64)), sS, sJ ((l2 + (0 : Int64)) + k310), sS, sU, sU, sU, sU] [(.long (1 : Int64))]))
        exact ⟨T313, ⟨_, N313, X313, e313⟩, fun _ hr => by rw [if_pos (Or.inl hc315)] at hr; exact hr⟩
      · refine Sg.go (fun _ hr => zXS_ifNo X313.here hx rfl (hb hby d3_521) rfl (XT.i0_lt_f hc315) (zXT_lload X313.here hx rfl (hb hby d3_524) rfl (zXT_lload X313.here hx rfl (hb hby d3_526) rfl hr))) ?_
        have zz316 : n0 ≤ h0.size := by omega
        refine gStaticN Sg.cl (y := (⟨"java/lang/Long", "compareUnsigned", "(JJ)I"⟩ : MethodName)) (argsL := [(.long ((l2 + (0 : Int64)) + k310)), (.long (l2 + (0 : Int64)))]) (rest := []) (mc := 0) (ms := 0) X313 hx hZ hown (mvT hZ (hw _ (List.mem_of_getElem? (i := 46) rfl))) (mvT hZ (hw _ (List.mem_of_getElem? (i := 47) rfl))) (mvT hZ (hw _ (List.mem_of_getElem? (i := 48) rfl))) (mvT hZ (hw _ (List.mem_of_getElem? (i := 49) rfl))) (by decide) (backOf (W := 0) (cum l Z a0 hw [] ((l2 + (0 : Int64)) + k310) (l2 + (0 : Int64)) h0 n0 zz316 ) hZ (hw _ (List.mem_of_getElem? (i := 49) rfl)) (hw _ (List.mem_of_getElem? (i := 48) rfl)) (by decide) (by decide)) rfl (by rw [hml]; rfl) (lenOf pd_1 rfl) rfl (by show 2 * 0 + _ ≤ _; exact Nat.le_of_eq rfl) (hb hby d3_528) rfl e313 (by decide) (by decide) ?_
        intro v316 T316 Lc316 hQ316 X316
        obtain ⟨rfl, Nq316, e316⟩ := hQ316
        have N316 := Fr.app N313 Nq316
        by_cases hc317 : (cu ((l2 + (0 : Int64)) + k310) (l2 + (0 : Int64))) < (0 : Int32)
        · refine Sg.go (fun _ hr => zXS_ifNo X316.here hx rfl (hb hby d3_531) rfl (XT.i0_ge_f hc317) (zXT_lconst X316.here hx rfl (hb hby d3_534) (zXS_goto X316.here hx rfl (pc0 := 535) (pc' := 539) rfl (hb hby d3_535) (by decide) (by decide) hr))) ?_
          show Sg _ _ p.tables e below (T316.setTop (mkF m 539 #[.val (.ref x), sJ cn, sS, sJ 0, sS, sJ 1, sS, sJ pt, sS, sJ (fMag cn), sS, sJ (fMag cn), sS, sJ 0, sS, sJ 0, sS, sJ 0, sS, sJ 0, sS, sI 0, sI 0, sJ (fMag cn), sS, sJ 0, sS, sJ 0, sS, sJ 0, sS, sJ (fMag cn), sS, sJ 0, sS, sJ 0, sS, sJ 0, sS, sJ (l0 + (fMag cn)), sS, sJ k302, sS, sJ (l1 + (0 : Int64)), sS, sJ ((l1 + (0 : Int64)) + k302), sS, sJ k310, sS, sJ (l2 + (0 : Int64)), sS, sJ ((l2 + (0 : Int64)) + k310), sS, sU, sU, sU, sU] [(.long (1 : Int64))]))
          exact ⟨T316, ⟨_, N316, X316, e316⟩, fun _ hr => by rw [if_pos (Or.inr hc317)] at hr; exact hr⟩
        · refine Sg.go (fun _ hr => zXS_ifYes X316.here hx rfl (pc0 := 531) (pc' := 538) rfl (hb hby d3_531) rfl (XT.i0_ge_t hc317) (by decide) (by decide) (zXT_lconst X316.here hx rfl (hb hby d3_538) hr)) ?_
          show Sg _ _ p.tables e below (T316.setTop (mkF m 539 #[.val (.ref x), sJ cn, sS, sJ 0, sS, sJ 1, sS, sJ pt, sS, sJ (fMag cn), sS, sJ (fMag cn), sS, sJ 0, sS, sJ 0, sS, sJ 0, sS, sJ 0, sS, sI 0, sI 0, sJ (fMag cn), sS, sJ 0, sS, sJ 0, sS, sJ 0, sS, sJ (fMag cn), sS, sJ 0, sS, sJ 0, sS, sJ 0, sS, sJ (l0 + (fMag cn)), sS, sJ k302, sS, sJ (l1 + (0 : Int64)), sS, sJ ((l1 + (0 : Int64)) + k302), sS, sJ k310, sS, sJ (l2 + (0 : Int64)), sS, sJ ((l2 + (0 : Int64)) + k310), sS, sU, sU, sU, sU] [(.long (0 : Int64))]))
          exact ⟨T316, ⟨_, N316, X316, e316⟩, fun _ hr => by rw [if_neg (not_or.mpr ⟨hc315, hc317⟩)] at hr; exact hr⟩
    refine Gl.go st314 ?_
    show Gl p.tables e below _ (T314.setTop (mkF m 539 #[.val (.ref x), sJ cn, sS, sJ 0, sS, sJ 1, sS, sJ pt, sS, sJ (fMag cn), sS, sJ (fMag cn), sS, sJ 0, sS, sJ 0, sS, sJ 0, sS, sJ 0, sS, sI 0, sI 0, sJ (fMag cn), sS, sJ 0, sS, sJ 0, sS, sJ 0, sS, sJ (fMag cn), sS, sJ 0, sS, sJ 0, sS, sJ 0, sS, sJ (l0 + (fMag cn)), sS, sJ k302, sS, sJ (l1 + (0 : Int64)), sS, sJ ((l1 + (0 : Int64)) + k302), sS, sJ k310, sS, sJ (l2 + (0 : Int64)), sS, sJ ((l2 + (0 : Int64)) + k310), sS, sU, sU, sU, sU] [(.long (if cu (l2 + (0 : Int64)) l2 < 0 ∨ cu ((l2 + (0 : Int64)) + k310) (l2 + (0 : Int64)) < 0 then (1 : Int64) else 0))]))
    obtain ⟨k318, hq_k318⟩ : ∃ q, q = (if cu (l2 + (0 : Int64)) l2 < 0 ∨ cu ((l2 + (0 : Int64)) + k310) (l2 + (0 : Int64)) < 0 then (1 : Int64) else 0) := ⟨_, rfl⟩
    rw [← hq_k318]
    have hq_k318_ : k318 = 0 ∨ k318 = 1 := by rw [hq_k318]; exact own_k01
    show Gl p.tables e below _ (T314.setTop (mkF m 539 #[.val (.ref x), sJ cn, sS, sJ 0, sS, sJ 1, sS, sJ pt, sS, sJ (fMag cn), sS, sJ (fMag cn), sS, sJ 0, sS, sJ 0, sS, sJ 0, sS, sJ 0, sS, sI 0, sI 0, sJ (fMag cn), sS, sJ 0, sS, sJ 0, sS, sJ 0, sS, sJ (fMag cn), sS, sJ 0, sS, sJ 0, sS, sJ 0, sS, sJ (l0 + (fMag cn)), sS, sJ k302, sS, sJ (l1 + (0 : Int64)), sS, sJ ((l1 + (0 : Int64)) + k302), sS, sJ k310, sS, sJ (l2 + (0 : Int64)), sS, sJ ((l2 + (0 : Int64)) + k310), sS, sU, sU, sU, sU] [(.long k318)]))
    refine Gl.go (fun _ hr => zXT_lstore X314.here hx rfl (hb hby d3_539) rfl (l' := #[.val (.ref x), sJ cn, sS, sJ 0, sS, sJ 1, sS, sJ pt, sS, sJ (fMag cn), sS, sJ (fMag cn), sS, sJ 0, sS, sJ 0, sS, sJ 0, sS, sJ 0, sS, sI 0, sI 0, sJ (fMag cn), sS, sJ 0, sS, sJ 0, sS, sJ 0, sS, sJ (fMag cn), sS, sJ 0, sS, sJ 0, sS, sJ 0, sS, sJ (l0 + (fMag cn)), sS, sJ k302, sS, sJ (l1 + (0 : Int64)), sS, sJ ((l1 + (0 : Int64)) + k302), sS, sJ k310, sS, sJ (l2 + (0 : Int64)), sS, sJ ((l2 + (0 : Int64)) + k310), sS, sJ k318, sS, sU, sU]) rfl (zXS_aloadN X314.here hx rfl (hb hby d3_541) rfl rfl hr)) ?_
    refine gGetF (host := "") Gl.cl X314 hx hZ hown (Or.inl (hw _ (List.mem_of_getElem? (i := 33) rfl))) Via.refl e314 q6 rfl rfl (hb hby d3_542) ?_
    intro T319 X319 e319
    refine Gl.go (fun _ hr => zXT_lload X319.here hx rfl (hb hby d3_545) rfl (zXT_ladd X319.here hx rfl (hb hby d3_547) rfl (zXT_lload X319.here hx rfl (hb hby d3_548) rfl (zXT_ladd X319.here hx rfl (hb hby d3_550) rfl (zXT_lstore X319.here hx rfl (hb hby d3_551) rfl (l' := #[.val (.ref x), sJ cn, sS, sJ 0, sS, sJ 1, sS, sJ pt, sS, sJ (fMag cn), sS, sJ (fMag cn), sS, sJ 0, sS, sJ 0, sS, sJ 0, sS, sJ 0, sS, sI 0, sI 0, sJ (fMag cn), sS, sJ 0, sS, sJ 0, sS, sJ 0, sS, sJ (fMag cn), sS, sJ 0, sS, sJ 0, sS, sJ 0, sS, sJ (l0 + (fMag cn)), sS, sJ k302, sS, sJ (l1 + (0 : Int64)), sS, sJ ((l1 + (0 : Int64)) + k302), sS, sJ k310, sS, sJ (l2 + (0 : Int64)), sS, sJ ((l2 + (0 : Int64)) + k310), sS, sJ k318, sS, sJ ((l3 + (0 : Int64)) + k318), sS]) rfl (zXS_aloadN X319.here hx rfl (hb hby d3_553) rfl rfl hr)))))) ?_
    refine gGetF (host := "") Gl.cl X319 hx hZ hown (Or.inl (hw _ (List.mem_of_getElem? (i := 33) rfl))) Via.refl e319 q6 rfl rfl (hb hby d3_554) ?_
    intro T320 X320 e320
    refine Gl.go (fun _ hr => zXT_lload X320.here hx rfl (hb hby d3_557) rfl (zXT_lxor X320.here hx rfl (hb hby d3_559) rfl (zXT_lload X320.here hx rfl (hb hby d3_560) rfl (zXT_lload X320.here hx rfl (hb hby d3_562) rfl (zXT_lxor X320.here hx rfl (hb hby d3_564) rfl (zXT_land X320.here hx rfl (hb hby d3_565) rfl (zXT_lconst X320.here hx rfl (hb hby d3_566) (zXT_lcmp X320.here hx rfl (hb hby d3_567) rfl hr)))))))) ?_
    refine Gl.go (fun _ hr => zXS_ifYes X320.here hx rfl (pc0 := 568) (pc' := 581) rfl (hb hby d3_568) rfl (XT.ll_ge_t (own_ov hl3 hq_k318_ (Or.inl rfl))) (by decide) (by decide) (zXS_aloadN X320.here hx rfl (hb hby d3_581) rfl rfl (zXT_lload X320.here hx rfl (hb hby d3_582) rfl hr))) ?_
    refine gPutF (host := "") Gl.cl X320 hx hZ hown (Or.inl (hw _ (List.mem_of_getElem? (i := 27) rfl))) Via.refl e320 q3 q0 (Or.inl (hw _ (List.mem_of_getElem? (i := 28) rfl))) (hw _ (List.mem_of_getElem? (i := 5) rfl)) (ty := .long) (by decide) rfl rfl rfl rfl (hb hby d3_584) ?_
    intro T321 h321 X321 e321 W321
    have z322 : h0.size ≤ h321.size := (Keep.of_wr W321).1
    have Fw321 := q3.same W321
    have N321 := Fr.snoc X321 N314 (own_ale (by omega))
    refine Gl.go (fun _ hr => zXS_aloadN X321.here hx rfl (hb hby d3_587) rfl rfl (zXT_lload X321.here hx rfl (hb hby d3_588) rfl hr)) ?_
    have Fc323 := (q4.other W321 (Or.inr (slot_ne (Or.inl (hw _ (List.mem_of_getElem? (i := 30) rfl))) (Or.inl (hw _ (List.mem_of_getElem? (i := 28) rfl))) (by decide) (t := .long) (t' := .long) (by decide) (by decide))))
    have Ec324 := (q0.wr W321)
    refine gPutF (host := "") Gl.cl X321 hx hZ hown (Or.inl (hw _ (List.mem_of_getElem? (i := 29) rfl))) Via.refl e321 Fc323 Ec324 (Or.inl (hw _ (List.mem_of_getElem? (i := 30) rfl))) (hw _ (List.mem_of_getElem? (i := 5) rfl)) (ty := .long) (by decide) rfl rfl rfl rfl (hb hby d3_590) ?_
    intro T325 h325 X325 e325 W325
    have z326 : h321.size ≤ h325.size := (Keep.of_wr W325).1
    have Fw325 := Fc323.same W325
    have N325 := Fr.snoc X325 N321 (own_ale (by omega))
    refine Gl.go (fun _ hr => zXS_aloadN X325.here hx rfl (hb hby d3_593) rfl rfl (zXT_lload X325.here hx rfl (hb hby d3_594) rfl hr)) ?_
    have Fc327 := ((q5.other W321 (Or.inr (slot_ne (Or.inl (hw _ (List.mem_of_getElem? (i := 32) rfl))) (Or.inl (hw _ (List.mem_of_getElem? (i := 28) rfl))) (by decide) (t := .long) (t' := .long) (by decide) (by decide)))).other W325 (Or.inr (slot_ne (Or.inl (hw _ (List.mem_of_getElem? (i := 32) rfl))) (Or.inl (hw _ (List.mem_of_getElem? (i := 30) rfl))) (by decide) (t := .long) (t' := .long) (by decide) (by decide))))
    have Ec328 := (Ec324.wr W325)
    refine gPutF (host := "") Gl.cl X325 hx hZ hown (Or.inl (hw _ (List.mem_of_getElem? (i := 31) rfl))) Via.refl e325 Fc327 Ec328 (Or.inl (hw _ (List.mem_of_getElem? (i := 32) rfl))) (hw _ (List.mem_of_getElem? (i := 5) rfl)) (ty := .long) (by decide) rfl rfl rfl rfl (hb hby d3_596) ?_
    intro T329 h329 X329 e329 W329
    have z330 : h325.size ≤ h329.size := (Keep.of_wr W329).1
    have Fw329 := Fc327.same W329
    have N329 := Fr.snoc X329 N325 (own_ale (by omega))
    refine Gl.go (fun _ hr => zXS_aloadN X329.here hx rfl (hb hby d3_599) rfl rfl (zXT_lload X329.here hx rfl (hb hby d3_600) rfl hr)) ?_
    have Fc331 := (((q6.other W321 (Or.inr (slot_ne (Or.inl (hw _ (List.mem_of_getElem? (i := 34) rfl))) (Or.inl (hw _ (List.mem_of_getElem? (i := 28) rfl))) (by decide) (t := .long) (t' := .long) (by decide) (by decide)))).other W325 (Or.inr (slot_ne (Or.inl (hw _ (List.mem_of_getElem? (i := 34) rfl))) (Or.inl (hw _ (List.mem_of_getElem? (i := 30) rfl))) (by decide) (t := .long) (t' := .long) (by decide) (by decide)))).other W329 (Or.inr (slot_ne (Or.inl (hw _ (List.mem_of_getElem? (i := 34) rfl))) (Or.inl (hw _ (List.mem_of_getElem? (i := 32) rfl))) (by decide) (t := .long) (t' := .long) (by decide) (by decide))))
    have Ec332 := (Ec328.wr W329)
    refine gPutF (host := "") Gl.cl X329 hx hZ hown (Or.inl (hw _ (List.mem_of_getElem? (i := 33) rfl))) Via.refl e329 Fc331 Ec332 (Or.inl (hw _ (List.mem_of_getElem? (i := 34) rfl))) (hw _ (List.mem_of_getElem? (i := 5) rfl)) (ty := .long) (by decide) rfl rfl rfl rfl (hb hby d3_602) ?_
    intro T333 h333 X333 e333 W333
    have z334 : h329.size ≤ h333.size := (Keep.of_wr W333).1
    have Fw333 := Fc331.same W333
    have N333 := Fr.snoc X333 N329 (own_ale (by omega))
    refine Gl.go (fun _ hr => zXS_aloadN X333.here hx rfl (hb hby d3_605) rfl rfl (zXS_iconst X333.here hx rfl (hb hby d3_606) hr)) ?_
    have Fc335 := ((((q7.other W321 (Or.inr (slot_ne (Or.inl (hw _ (List.mem_of_getElem? (i := 66) rfl))) (Or.inl (hw _ (List.mem_of_getElem? (i := 28) rfl))) (by decide) (t := .boolean) (t' := .long) (by decide) (by decide)))).other W325 (Or.inr (slot_ne (Or.inl (hw _ (List.mem_of_getElem? (i := 66) rfl))) (Or.inl (hw _ (List.mem_of_getElem? (i := 30) rfl))) (by decide) (t := .boolean) (t' := .long) (by decide) (by decide)))).other W329 (Or.inr (slot_ne (Or.inl (hw _ (List.mem_of_getElem? (i := 66) rfl))) (Or.inl (hw _ (List.mem_of_getElem? (i := 32) rfl))) (by decide) (t := .boolean) (t' := .long) (by decide) (by decide)))).other W333 (Or.inr (slot_ne (Or.inl (hw _ (List.mem_of_getElem? (i := 66) rfl))) (Or.inl (hw _ (List.mem_of_getElem? (i := 34) rfl))) (by decide) (t := .boolean) (t' := .long) (by decide) (by decide))))
    have Ec336 := (Ec332.wr W333)
    refine gPutF (host := "") Gl.cl X333 hx hZ hown (Or.inl (hw _ (List.mem_of_getElem? (i := 65) rfl))) Via.refl e333 Fc335 Ec336 (Or.inl (hw _ (List.mem_of_getElem? (i := 66) rfl))) (hw _ (List.mem_of_getElem? (i := 5) rfl)) (ty := .boolean) (by decide) rfl rfl rfl rfl (hb hby d3_607) ?_
    intro T337 h337 X337 e337 W337
    have z338 : h333.size ≤ h337.size := (Keep.of_wr W337).1
    have Fw337 := Fc335.same W337
    have N337 := Fr.snoc X337 N333 (own_ale (by omega))
    have Ec339 := (Ec336.wr W337)
    have Fc340 := (((((q2.other W321 (Or.inr (slot_ne (Or.inl (hw _ (List.mem_of_getElem? (i := 15) rfl))) (Or.inl (hw _ (List.mem_of_getElem? (i := 28) rfl))) (by decide) (t := .long) (t' := .long) (by decide) (by decide)))).other W325 (Or.inr (slot_ne (Or.inl (hw _ (List.mem_of_getElem? (i := 15) rfl))) (Or.inl (hw _ (List.mem_of_getElem? (i := 30) rfl))) (by decide) (t := .long) (t' := .long) (by decide) (by decide)))).other W329 (Or.inr (slot_ne (Or.inl (hw _ (List.mem_of_getElem? (i := 15) rfl))) (Or.inl (hw _ (List.mem_of_getElem? (i := 32) rfl))) (by decide) (t := .long) (t' := .long) (by decide) (by decide)))).other W333 (Or.inr (slot_ne (Or.inl (hw _ (List.mem_of_getElem? (i := 15) rfl))) (Or.inl (hw _ (List.mem_of_getElem? (i := 34) rfl))) (by decide) (t := .long) (t' := .long) (by decide) (by decide)))).other W337 (Or.inr (slot_ne (Or.inl (hw _ (List.mem_of_getElem? (i := 15) rfl))) (Or.inl (hw _ (List.mem_of_getElem? (i := 66) rfl))) (by decide) (t := .long) (t' := .boolean) (by decide) (by decide))))
    have Fc341 := ((((Fw321.other W325 (Or.inr (slot_ne (Or.inl (hw _ (List.mem_of_getElem? (i := 28) rfl))) (Or.inl (hw _ (List.mem_of_getElem? (i := 30) rfl))) (by decide) (t := .long) (t' := .long) (by decide) (by decide)))).other W329 (Or.inr (slot_ne (Or.inl (hw _ (List.mem_of_getElem? (i := 28) rfl))) (Or.inl (hw _ (List.mem_of_getElem? (i := 32) rfl))) (by decide) (t := .long) (t' := .long) (by decide) (by decide)))).other W333 (Or.inr (slot_ne (Or.inl (hw _ (List.mem_of_getElem? (i := 28) rfl))) (Or.inl (hw _ (List.mem_of_getElem? (i := 34) rfl))) (by decide) (t := .long) (t' := .long) (by decide) (by decide)))).other W337 (Or.inr (slot_ne (Or.inl (hw _ (List.mem_of_getElem? (i := 28) rfl))) (Or.inl (hw _ (List.mem_of_getElem? (i := 66) rfl))) (by decide) (t := .long) (t' := .boolean) (by decide) (by decide))))
    have Fc342 := (((Fw325.other W329 (Or.inr (slot_ne (Or.inl (hw _ (List.mem_of_getElem? (i := 30) rfl))) (Or.inl (hw _ (List.mem_of_getElem? (i := 32) rfl))) (by decide) (t := .long) (t' := .long) (by decide) (by decide)))).other W333 (Or.inr (slot_ne (Or.inl (hw _ (List.mem_of_getElem? (i := 30) rfl))) (Or.inl (hw _ (List.mem_of_getElem? (i := 34) rfl))) (by decide) (t := .long) (t' := .long) (by decide) (by decide)))).other W337 (Or.inr (slot_ne (Or.inl (hw _ (List.mem_of_getElem? (i := 30) rfl))) (Or.inl (hw _ (List.mem_of_getElem? (i := 66) rfl))) (by decide) (t := .long) (t' := .boolean) (by decide) (by decide))))
    have Fc343 := ((Fw329.other W333 (Or.inr (slot_ne (Or.inl (hw _ (List.mem_of_getElem? (i := 32) rfl))) (Or.inl (hw _ (List.mem_of_getElem? (i := 34) rfl))) (by decide) (t := .long) (t' := .long) (by decide) (by decide)))).other W337 (Or.inr (slot_ne (Or.inl (hw _ (List.mem_of_getElem? (i := 32) rfl))) (Or.inl (hw _ (List.mem_of_getElem? (i := 66) rfl))) (by decide) (t := .long) (t' := .boolean) (by decide) (by decide))))
    have Fc344 := (Fw333.other W337 (Or.inr (slot_ne (Or.inl (hw _ (List.mem_of_getElem? (i := 34) rfl))) (Or.inl (hw _ (List.mem_of_getElem? (i := 66) rfl))) (by decide) (t := .long) (t' := .boolean) (by decide) (by decide))))
    obtain ⟨fs, hr, hrun, hended, hW, hsame⟩ := X337.leave (v := none) (fun _ => rfl)
    refine ⟨_, _, X337.returnOut hx Bd.returns (hb hby d3_610) hr, hrun, hended, _, _, rfl, ?_, ⟨⟨_, rfl⟩, hW, hsame.mono (by decide) (by decide)⟩⟩
    show QaddB0 Z x cn pt l0 l1 l2 l3 h0 n0 _ T337.heap _
    rw [e337]
    exact ⟨(l0 + (fMag cn)), ((l1 + (0 : Int64)) + k302), ((l2 + (0 : Int64)) + k310), ((l3 + (0 : Int64)) + k318), rfl, N337, ((((((Keep.refl h0 [x]).wr W321 (Or.inl (by simp))).wr W325 (Or.inl (by simp))).wr W329 (Or.inl (by simp))).wr W333 (Or.inl (by simp))).wr W337 (Or.inl (by simp))), Ec339, Fc340, Fc341, Fc342, Fc343, Fc344, Fw337, (own_add_ne hpos)⟩
def QaddB1 (Z : State) (x : Addr) (cn : Int64) (pt : Int64) (l0 : Int64) (l1 : Int64) (l2 : Int64) (l3 : Int64) (h0 : Heap) (n0 : Nat) (v : Option Value) (h : Heap) (L : List Loc) : Prop := ∃ (m0 : Int64), ∃ (m1 : Int64), ∃ (m2 : Int64), ∃ (m3 : Int64), v = none ∧ Fr n0 L ∧ Keep h0 h [x] ∧ (Exa Z h x "com/example/evenkeel/evenkeel/share/FlooredSum") ∧ (Fld Z h x "com/example/evenkeel/evenkeel/share/FlooredSum" "point" "J" (.long pt)) ∧ (Fld Z h x "com/example/evenkeel/evenkeel/share/FlooredSum" "limb0" "J" (.long m0)) ∧ (Fld Z h x "com/example/evenkeel/evenkeel/share/FlooredSum" "limb1" "J" (.long m1)) ∧ (Fld Z h x "com/example/evenkeel/evenkeel/share/FlooredSum" "limb2" "J" (.long m2)) ∧ (Fld Z h x "com/example/evenkeel/evenkeel/share/FlooredSum" "limb3" "J" (.long m3)) ∧ (Fld Z h x "com/example/evenkeel/evenkeel/share/FlooredSum" "known" "Z" (.int (0 : Int32))) ∧ (¬ m1 = l1)
theorem ef_addB1 (m : MethodId) (x0 : Addr) (x1 : Int64) (x2 : Int64) (x3 : Int64) (x4 : Int64) : entryFrame m #[(.ref x0), (.long x1), (.long x2), (.long x3), (.long x4)] 57 = mkF m 0 #[.val (.ref x0), sJ x1, sS, sJ x2, sS, sJ x3, sS, sJ x4, sS, sU, sU, sU, sU, sU, sU, sU, sU, sU, sU, sU, sU, sU, sU, sU, sU, sU, sU, sU, sU, sU, sU, sU, sU, sU, sU, sU, sU, sU, sU, sU, sU, sU, sU, sU, sU, sU, sU, sU, sU, sU, sU, sU, sU, sU, sU, sU, sU] [] := by first | (simp [entryFrame, mkF, argsToLocals, Value.category]; done) | rfl
set_option maxRecDepth 65536 in
set_option maxHeartbeats 40000000 in
theorem addB1 (l : Launch) (Z : State) (a0 : Array Value) (hw : ∀ d ∈ tables_1, d.before a0 Z = true) (ws : List Jvm.Cond) (x : Addr) (cn : Int64) (pt : Int64) (l0 : Int64) (l1 : Int64) (l2 : Int64) (l3 : Int64) (h0 : Heap) (n0 : Nat) (Z0 : n0 ≤ h0.size) (q0 : Exa Z h0 x "com/example/evenkeel/evenkeel/share/FlooredSum") (q1 : @LE.le Nat instLENat n0 x) (q2 : Fld Z h0 x "com/example/evenkeel/evenkeel/share/FlooredSum" "point" "J" (.long pt)) (q3 : Fld Z h0 x "com/example/evenkeel/evenkeel/share/FlooredSum" "limb0" "J" (.long l0)) (q4 : Fld Z h0 x "com/example/evenkeel/evenkeel/share/FlooredSum" "limb1" "J" (.long l1)) (q5 : Fld Z h0 x "com/example/evenkeel/evenkeel/share/FlooredSum" "limb2" "J" (.long l2)) (q6 : Fld Z h0 x "com/example/evenkeel/evenkeel/share/FlooredSum" "limb3" "J" (.long l3)) (q7 : Fld Z h0 x "com/example/evenkeel/evenkeel/share/FlooredSum" "known" "Z" (.int (0 : Int32))) (hpt : ¬ pt = (-9223372036854775808 : Int64)) (hl3 : l3 = 0 ∨ l3 = -1) (hd : ¬ cn = (0 : Int64)) (hm : 0 ≤ (fMag cn).toInt) (hpos : ¬ (fMag cn) = (0 : Int64)) (hneg : ¬ -(fMag cn) = (0 : Int64)) :
    MetFree l (⟨"com/example/evenkeel/evenkeel/share/FlooredSum", "add", "(JJJJ)V"⟩ : MethodName) (head1 (Jvm.Cond.code (⟨"com/example/evenkeel/evenkeel/share/FlooredSum", "add", "(JJJJ)V"⟩ : MethodName) prog_96_method_10_code 57 none :: ws) ({ frames := 2, cells := 0, slots := 0, locals := 50 } : Room)) (fun a_ U_ => a_ = #[(.ref x), (.long cn), (.long (1 : Int64)), (.long (0 : Int64)), (.long pt)] ∧ Z.Warmed39 U_.vm ∧ U_.heap = h0) (fun _ _ _ _ _ => True) (fun _ U_ o_ V_ => ∃ v_ L_, o_ = .returned v_ ∧ QaddB1 Z x cn pt l0 l1 l2 l3 h0 n0 v_ V_.heap L_ ∧ FrameEnd U_ o_ V_ L_ ({ frames := 2, cells := 0, slots := 0, locals := 50 } : Room).cells ({ frames := 2, cells := 0, slots := 0, locals := 50 } : Room).slots) := by
  refine MetFree.of_bodySF (plainFor_of_name pn_0) hisR ?_
  intro p e s m args below meth c s₁ Bd hml0 hP hK
  obtain ⟨rfl, hZ, hh⟩ := hP
  have hx := Bd.exec
  have hby := Bd.bytes
  have hml : c.maxLocals = 57 := hml0
  have hown : s.vm.findClass "com/example/evenkeel/evenkeel/share/FlooredSum" = some m.cls := findClass_of_methodNamed Bd.named
  have hnm := (name_of_methodNamed Bd.named Bd.method).1
  have X0 : Stand p l e ({ frames := 2, cells := 0, slots := 0, locals := 50 } : Room) s m #[(.ref x), (.long cn), (.long (1 : Int64)), (.long (0 : Int64)), (.long pt)] below meth c s₁ [] 0 0 := Stand.of_body Bd
  have e0 : s₁.heap = h0 := by rw [← hh, Bd.state]; rfl
  have N0 := Fr.nil n0
  have lt345 := own_alt q0.lt
  have lt346 := own_alt q2.lt
  have lt347 := own_alt q3.lt
  have lt348 := own_alt q4.lt
  have lt349 := own_alt q5.lt
  have lt350 := own_alt q6.lt
  have lt351 := own_alt q7.lt
  refine Gl.go (A := s₁.setTop (entryFrame m #[(.ref x), (.long cn), (.long (1 : Int64)), (.long (0 : Int64)), (.long pt)] 57)) (P := fun o_ U_ => ∃ v_ L_, o_ = .returned v_ ∧ QaddB1 Z x cn pt l0 l1 l2 l3 h0 n0 v_ U_.heap L_ ∧ FrameEnd s o_ U_ L_ ({ frames := 2, cells := 0, slots := 0, locals := 50 } : Room).cells ({ frames := 2, cells := 0, slots := 0, locals := 50 } : Room).slots) (fun t_ k_ => castTop (ef_addB1 m x cn (1 : Int64) (0 : Int64) pt) k_) ?_
  show Gl p.tables e below _ (s₁.setTop (mkF m 0 #[.val (.ref x), sJ cn, sS, sJ 1, sS, sJ 0, sS, sJ pt, sS, sU, sU, sU, sU, sU, sU, sU, sU, sU, sU, sU, sU, sU, sU, sU, sU, sU, sU, sU, sU, sU, sU, sU, sU, sU, sU, sU, sU, sU, sU, sU, sU, sU, sU, sU, sU, sU, sU, sU, sU, sU, sU, sU, sU, sU, sU, sU, sU] []))
  refine Gl.go (fun _ hr => zXS_aloadN X0.here hx rfl (hb hby d3_0) rfl rfl hr) ?_
  refine gGetF (host := "") Gl.cl X0 hx hZ hown (Or.inl (hw _ (List.mem_of_getElem? (i := 14) rfl))) Via.refl e0 q2 rfl rfl (hb hby d3_1) ?_
  intro T352 X352 e352
  refine Gl.go (X352.ldc2Long hx hown (mvT hZ (hw _ (List.mem_of_getElem? (i := 13) rfl))) rfl (hb hby d3_4)) ?_
  refine Gl.go (fun _ hr => zXT_lcmp X352.here hx rfl (hb hby d3_7) rfl hr) ?_
  refine Gl.go (fun _ hr => zXS_ifYes X352.here hx rfl (pc0 := 8) (pc' := 17) rfl (hb hby d3_8) rfl (XT.ll_ne_t hpt) (by decide) (by decide) (zXT_lload X352.here hx rfl (hb hby d3_17) rfl (zXS_aloadN X352.here hx rfl (hb hby d3_19) rfl rfl hr))) ?_
  refine gGetF (host := "") Gl.cl X352 hx hZ hown (Or.inl (hw _ (List.mem_of_getElem? (i := 14) rfl))) Via.refl e352 q2 rfl rfl (hb hby d3_20) ?_
  intro T353 X353 e353
  refine Gl.go (fun _ hr => zXT_lcmp X353.here hx rfl (hb hby d3_23) rfl hr) ?_
  refine Gl.go (fun _ hr => zXS_ifYes X353.here hx rfl (pc0 := 24) (pc' := 46) rfl (hb hby d3_24) rfl (XT.ll_ge_t (own_irrJ _)) (by decide) (by decide) (zXT_lloadN X353.here hx rfl (hb hby d3_46) rfl (zXT_lconst X353.here hx rfl (hb hby d3_47) (zXT_lcmp X353.here hx rfl (hb hby d3_48) rfl hr)))) ?_
  refine Gl.go (fun _ hr => zXS_ifNo X353.here hx rfl (hb hby d3_49) rfl (XT.ll_eq_f hd) (zXT_lloadN X353.here hx rfl (hb hby d3_52) rfl (zXT_lconst X353.here hx rfl (hb hby d3_53) (zXT_lcmp X353.here hx rfl (hb hby d3_54) rfl (zXS_ifYes X353.here hx rfl (pc0 := 55) (pc' := 66) rfl (hb hby d3_55) rfl (XT.ll_ne_t (by decide)) (by decide) (by decide) (zXT_lloadN X353.here hx rfl (hb hby d3_66) rfl hr)))))) ?_
  have zz354 : n0 ≤ h0.size := by omega
  refine gStaticN Gl.cl (y := (⟨"java/lang/Math", "abs", "(J)J"⟩ : MethodName)) (argsL := [(.long cn)]) (rest := []) (mc := 0) (ms := 0) X353 hx hZ hown (mvT hZ (hw _ (List.mem_of_getElem? (i := 35) rfl))) (mvT hZ (hw _ (List.mem_of_getElem? (i := 36) rfl))) (mvT hZ (hw _ (List.mem_of_getElem? (i := 37) rfl))) (mvT hZ (hw _ (List.mem_of_getElem? (i := 38) rfl))) (by decide) (backOf (W := 0) (absm l Z a0 hw [] cn h0 n0 zz354 ) hZ (hw _ (List.mem_of_getElem? (i := 38) rfl)) (hw _ (List.mem_of_getElem? (i := 37) rfl)) (by decide) (by decide)) rfl (by rw [hml]; rfl) (lenOf pd_3 rfl) rfl (by show 2 * 0 + _ ≤ _; exact Nat.le_of_eq rfl) (hb hby d3_67) rfl e353 (by decide) (by decide) ?_
  intro v354 T354 Lc354 hQ354 X354
  obtain ⟨rfl, Nq354, e354⟩ := hQ354
  have N354 := Fr.app N0 Nq354
  refine Gl.go (fun _ hr => zXT_lstore X354.here hx rfl (hb hby d3_70) rfl (l' := #[.val (.ref x), sJ cn, sS, sJ 1, sS, sJ 0, sS, sJ pt, sS, sJ (fMag cn), sS, sU, sU, sU, sU, sU, sU, sU, sU, sU, sU, sU, sU, sU, sU, sU, sU, sU, sU, sU, sU, sU, sU, sU, sU, sU, sU, sU, sU, sU, sU, sU, sU, sU, sU, sU, sU, sU, sU, sU, sU, sU, sU, sU, sU, sU, sU]) rfl (zXT_lload X354.here hx rfl (hb hby d3_72) rfl (zXT_lload X354.here hx rfl (hb hby d3_74) rfl (zXT_lmul X354.here hx rfl (hb hby d3_76) rfl hr)))) ?_
  show Gl p.tables e below _ (T354.setTop (mkF m 77 #[.val (.ref x), sJ cn, sS, sJ 1, sS, sJ 0, sS, sJ pt, sS, sJ (fMag cn), sS, sU, sU, sU, sU, sU, sU, sU, sU, sU, sU, sU, sU, sU, sU, sU, sU, sU, sU, sU, sU, sU, sU, sU, sU, sU, sU, sU, sU, sU, sU, sU, sU, sU, sU, sU, sU, sU, sU, sU, sU, sU, sU, sU, sU, sU, sU] [(.long ((fMag cn) * (0 : Int64)))]))
  rw [Int64.mul_zero]
  show Gl p.tables e below _ (T354.setTop (mkF m 77 #[.val (.ref x), sJ cn, sS, sJ 1, sS, sJ 0, sS, sJ pt, sS, sJ (fMag cn), sS, sU, sU, sU, sU, sU, sU, sU, sU, sU, sU, sU, sU, sU, sU, sU, sU, sU, sU, sU, sU, sU, sU, sU, sU, sU, sU, sU, sU, sU, sU, sU, sU, sU, sU, sU, sU, sU, sU, sU, sU, sU, sU, sU, sU, sU, sU] [(.long (0 : Int64))]))
  refine Gl.go (fun _ hr => zXT_lstore X354.here hx rfl (hb hby d3_77) rfl (l' := #[.val (.ref x), sJ cn, sS, sJ 1, sS, sJ 0, sS, sJ pt, sS, sJ (fMag cn), sS, sJ 0, sS, sU, sU, sU, sU, sU, sU, sU, sU, sU, sU, sU, sU, sU, sU, sU, sU, sU, sU, sU, sU, sU, sU, sU, sU, sU, sU, sU, sU, sU, sU, sU, sU, sU, sU, sU, sU, sU, sU, sU, sU, sU, sU, sU, sU]) rfl (zXT_lload X354.here hx rfl (hb hby d3_79) rfl (zXT_lload X354.here hx rfl (hb hby d3_81) rfl hr))) ?_
  have zz355 : n0 ≤ h0.size := by omega
  refine gStaticN Gl.cl (y := (⟨"com/example/evenkeel/evenkeel/share/FlooredSum", "unsignedMultiplyHigh", "(JJ)J"⟩ : MethodName)) (argsL := [(.long (fMag cn)), (.long (0 : Int64))]) (rest := []) (mc := 0) (ms := 0) X354 hx hZ hown (mvT hZ (hw _ (List.mem_of_getElem? (i := 39) rfl))) (mvT hZ (hw _ (List.mem_of_getElem? (i := 40) rfl))) (mvT hZ (hw _ (List.mem_of_getElem? (i := 6) rfl))) (mvT hZ (hw _ (List.mem_of_getElem? (i := 41) rfl))) (by decide) (backOf (W := 0) (umh l Z a0 hw [] (fMag cn) (0 : Int64) h0 n0 zz355 ) hZ (hw _ (List.mem_of_getElem? (i := 41) rfl)) (hw _ (List.mem_of_getElem? (i := 6) rfl)) (by decide) (by decide)) rfl (by rw [hml]; rfl) (lenOf pd_0 rfl) rfl (by show 2 * 0 + _ ≤ _; exact Nat.le_of_eq rfl) (hb hby d3_83) rfl e354 (by decide) (by decide) ?_
  intro v355 T355 Lc355 hQ355 X355
  obtain ⟨rfl, Nq355, e355⟩ := hQ355
  have N355 := Fr.app N354 Nq355
  show Gl p.tables e below _ (T355.setTop (mkF m 86 #[.val (.ref x), sJ cn, sS, sJ 1, sS, sJ 0, sS, sJ pt, sS, sJ (fMag cn), sS, sJ 0, sS, sU, sU, sU, sU, sU, sU, sU, sU, sU, sU, sU, sU, sU, sU, sU, sU, sU, sU, sU, sU, sU, sU, sU, sU, sU, sU, sU, sU, sU, sU, sU, sU, sU, sU, sU, sU, sU, sU, sU, sU, sU, sU, sU, sU] [(.long (fUMH (fMag cn) (0 : Int64)))]))
  rw [own_umh0]
  show Gl p.tables e below _ (T355.setTop (mkF m 86 #[.val (.ref x), sJ cn, sS, sJ 1, sS, sJ 0, sS, sJ pt, sS, sJ (fMag cn), sS, sJ 0, sS, sU, sU, sU, sU, sU, sU, sU, sU, sU, sU, sU, sU, sU, sU, sU, sU, sU, sU, sU, sU, sU, sU, sU, sU, sU, sU, sU, sU, sU, sU, sU, sU, sU, sU, sU, sU, sU, sU, sU, sU, sU, sU, sU, sU] [(.long (0 : Int64))]))
  refine Gl.go (fun _ hr => zXT_lstore X355.here hx rfl (hb hby d3_86) rfl (l' := #[.val (.ref x), sJ cn, sS, sJ 1, sS, sJ 0, sS, sJ pt, sS, sJ (fMag cn), sS, sJ 0, sS, sJ 0, sS, sU, sU, sU, sU, sU, sU, sU, sU, sU, sU, sU, sU, sU, sU, sU, sU, sU, sU, sU, sU, sU, sU, sU, sU, sU, sU, sU, sU, sU, sU, sU, sU, sU, sU, sU, sU, sU, sU, sU, sU, sU, sU]) rfl (zXT_lload X355.here hx rfl (hb hby d3_88) rfl (zXT_lload X355.here hx rfl (hb hby d3_90) rfl (zXT_lloadN X355.here hx rfl (hb hby d3_92) rfl (zXT_lmul X355.here hx rfl (hb hby d3_93) rfl hr))))) ?_
  show Gl p.tables e below _ (T355.setTop (mkF m 94 #[.val (.ref x), sJ cn, sS, sJ 1, sS, sJ 0, sS, sJ pt, sS, sJ (fMag cn), sS, sJ 0, sS, sJ 0, sS, sU, sU, sU, sU, sU, sU, sU, sU, sU, sU, sU, sU, sU, sU, sU, sU, sU, sU, sU, sU, sU, sU, sU, sU, sU, sU, sU, sU, sU, sU, sU, sU, sU, sU, sU, sU, sU, sU, sU, sU, sU, sU] [(.long ((fMag cn) * (1 : Int64))), (.long (0 : Int64))]))
  rw [Int64.mul_one]
  show Gl p.tables e below _ (T355.setTop (mkF m 94 #[.val (.ref x), sJ cn, sS, sJ 1, sS, sJ 0, sS, sJ pt, sS, sJ (fMag cn), sS, sJ 0, sS, sJ 0, sS, sU, sU, sU, sU, sU, sU, sU, sU, sU, sU, sU, sU, sU, sU, sU, sU, sU, sU, sU, sU, sU, sU, sU, sU, sU, sU, sU, sU, sU, sU, sU, sU, sU, sU, sU, sU, sU, sU, sU, sU, sU, sU] [(.long (fMag cn)), (.long (0 : Int64))]))
  refine Gl.go (fun _ hr => zXT_ladd X355.here hx rfl (hb hby d3_94) rfl hr) ?_
  show Gl p.tables e below _ (T355.setTop (mkF m 95 #[.val (.ref x), sJ cn, sS, sJ 1, sS, sJ 0, sS, sJ pt, sS, sJ (fMag cn), sS, sJ 0, sS, sJ 0, sS, sU, sU, sU, sU, sU, sU, sU, sU, sU, sU, sU, sU, sU, sU, sU, sU, sU, sU, sU, sU, sU, sU, sU, sU, sU, sU, sU, sU, sU, sU, sU, sU, sU, sU, sU, sU, sU, sU, sU, sU, sU, sU] [(.long ((0 : Int64) + (fMag cn)))]))
  rw [Int64.zero_add]
  show Gl p.tables e below _ (T355.setTop (mkF m 95 #[.val (.ref x), sJ cn, sS, sJ 1, sS, sJ 0, sS, sJ pt, sS, sJ (fMag cn), sS, sJ 0, sS, sJ 0, sS, sU, sU, sU, sU, sU, sU, sU, sU, sU, sU, sU, sU, sU, sU, sU, sU, sU, sU, sU, sU, sU, sU, sU, sU, sU, sU, sU, sU, sU, sU, sU, sU, sU, sU, sU, sU, sU, sU, sU, sU, sU, sU] [(.long (fMag cn))]))
  refine Gl.go (fun _ hr => zXT_lstore X355.here hx rfl (hb hby d3_95) rfl (l' := #[.val (.ref x), sJ cn, sS, sJ 1, sS, sJ 0, sS, sJ pt, sS, sJ (fMag cn), sS, sJ 0, sS, sJ 0, sS, sJ (fMag cn), sS, sU, sU, sU, sU, sU, sU, sU, sU, sU, sU, sU, sU, sU, sU, sU, sU, sU, sU, sU, sU, sU, sU, sU, sU, sU, sU, sU, sU, sU, sU, sU, sU, sU, sU, sU, sU, sU, sU, sU, sU]) rfl (zXT_lload X355.here hx rfl (hb hby d3_97) rfl (zXT_lloadN X355.here hx rfl (hb hby d3_99) rfl hr))) ?_
  have zz356 : n0 ≤ h0.size := by omega
  refine gStaticN Gl.cl (y := (⟨"java/lang/Math", "multiplyHigh", "(JJ)J"⟩ : MethodName)) (argsL := [(.long (fMag cn)), (.long (1 : Int64))]) (rest := []) (mc := 0) (ms := 0) X355 hx hZ hown (mvT hZ (hw _ (List.mem_of_getElem? (i := 42) rfl))) (mvT hZ (hw _ (List.mem_of_getElem? (i := 43) rfl))) (mvT hZ (hw _ (List.mem_of_getElem? (i := 37) rfl))) (mvT hZ (hw _ (List.mem_of_getElem? (i := 44) rfl))) (by decide) (backOf (W := 0) (mhm l Z a0 hw [] (fMag cn) (1 : Int64) h0 n0 zz356 ) hZ (hw _ (List.mem_of_getElem? (i := 44) rfl)) (hw _ (List.mem_of_getElem? (i := 37) rfl)) (by decide) (by decide)) rfl (by rw [hml]; rfl) (lenOf pd_0 rfl) rfl (by show 2 * 0 + _ ≤ _; exact Nat.le_of_eq rfl) (hb hby d3_100) rfl e355 (by decide) (by decide) ?_
  intro v356 T356 Lc356 hQ356 X356
  obtain ⟨rfl, Nq356, e356⟩ := hQ356
  have N356 := Fr.app N355 Nq356
  show Gl p.tables e below _ (T356.setTop (mkF m 103 #[.val (.ref x), sJ cn, sS, sJ 1, sS, sJ 0, sS, sJ pt, sS, sJ (fMag cn), sS, sJ 0, sS, sJ 0, sS, sJ (fMag cn), sS, sU, sU, sU, sU, sU, sU, sU, sU, sU, sU, sU, sU, sU, sU, sU, sU, sU, sU, sU, sU, sU, sU, sU, sU, sU, sU, sU, sU, sU, sU, sU, sU, sU, sU, sU, sU, sU, sU, sU, sU] [(.long (fMH (fMag cn) (1 : Int64)))]))
  rw [own_mh1 hm]
  show Gl p.tables e below _ (T356.setTop (mkF m 103 #[.val (.ref x), sJ cn, sS, sJ 1, sS, sJ 0, sS, sJ pt, sS, sJ (fMag cn), sS, sJ 0, sS, sJ 0, sS, sJ (fMag cn), sS, sU, sU, sU, sU, sU, sU, sU, sU, sU, sU, sU, sU, sU, sU, sU, sU, sU, sU, sU, sU, sU, sU, sU, sU, sU, sU, sU, sU, sU, sU, sU, sU, sU, sU, sU, sU, sU, sU, sU, sU] [(.long (0 : Int64))]))
  refine Gl.go (fun _ hr => zXT_lload X356.here hx rfl (hb hby d3_103) rfl (zXT_lload X356.here hx rfl (hb hby d3_105) rfl hr)) ?_
  have zz357 : n0 ≤ h0.size := by omega
  refine gStaticN Gl.cl (y := (⟨"java/lang/Long", "compareUnsigned", "(JJ)I"⟩ : MethodName)) (argsL := [(.long (fMag cn)), (.long (0 : Int64))]) (rest := [(.long (0 : Int64))]) (mc := 0) (ms := 0) X356 hx hZ hown (mvT hZ (hw _ (List.mem_of_getElem? (i := 46) rfl))) (mvT hZ (hw _ (List.mem_of_getElem? (i := 47) rfl))) (mvT hZ (hw _ (List.mem_of_getElem? (i := 48) rfl))) (mvT hZ (hw _ (List.mem_of_getElem? (i := 49) rfl))) (by decide) (backOf (W := 2) (cum l Z a0 hw [] (fMag cn) (0 : Int64) h0 n0 zz357 ) hZ (hw _ (List.mem_of_getElem? (i := 49) rfl)) (hw _ (List.mem_of_getElem? (i := 48) rfl)) (by decide) (by decide)) rfl (by rw [hml]; rfl) (lenOf pd_1 rfl) rfl (by show 2 * 0 + _ ≤ _; exact Nat.le_of_eq rfl) (hb hby d3_107) rfl e356 (by decide) (by decide) ?_
  intro v357 T357 Lc357 hQ357 X357
  obtain ⟨rfl, Nq357, e357⟩ := hQ357
  have N357 := Fr.app N356 Nq357
  refine Gl.go (fun _ hr => zXS_ifYes X357.here hx rfl (pc0 := 110) (pc' := 117) rfl (hb hby d3_110) rfl (XT.i0_ge_t (own_cu0 _)) (by decide) (by decide) (zXS_iconst X357.here hx rfl (hb hby d3_117) (zXT_i2l X357.here hx rfl (hb hby d3_118) rfl (zXT_ladd X357.here hx rfl (hb hby d3_119) rfl (zXT_lstore X357.here hx rfl (hb hby d3_120) rfl (l' := #[.val (.ref x), sJ cn, sS, sJ 1, sS, sJ 0, sS, sJ pt, sS, sJ (fMag cn), sS, sJ 0, sS, sJ 0, sS, sJ (fMag cn), sS, sJ 0, sS, sU, sU, sU, sU, sU, sU, sU, sU, sU, sU, sU, sU, sU, sU, sU, sU, sU, sU, sU, sU, sU, sU, sU, sU, sU, sU, sU, sU, sU, sU, sU, sU, sU, sU, sU, sU, sU, sU]) rfl (zXT_lload X357.here hx rfl (hb hby d3_122) rfl (zXS_aloadN X357.here hx rfl (hb hby d3_124) rfl rfl hr))))))) ?_
  refine gGetF (host := "") Gl.cl X357 hx hZ hown (Or.inl (hw _ (List.mem_of_getElem? (i := 14) rfl))) Via.refl e357 q2 rfl rfl (hb hby d3_125) ?_
  intro T358 X358 e358
  refine Gl.go (fun _ hr => zXT_lsub X358.here hx rfl (hb hby d3_128) rfl hr) ?_
  show Gl p.tables e below _ (T358.setTop (mkF m 129 #[.val (.ref x), sJ cn, sS, sJ 1, sS, sJ 0, sS, sJ pt, sS, sJ (fMag cn), sS, sJ 0, sS, sJ 0, sS, sJ (fMag cn), sS, sJ 0, sS, sU, sU, sU, sU, sU, sU, sU, sU, sU, sU, sU, sU, sU, sU, sU, sU, sU, sU, sU, sU, sU, sU, sU, sU, sU, sU, sU, sU, sU, sU, sU, sU, sU, sU, sU, sU, sU, sU] [(.long (pt - pt))]))
  rw [Int64.sub_self]
  show Gl p.tables e below _ (T358.setTop (mkF m 129 #[.val (.ref x), sJ cn, sS, sJ 1, sS, sJ 0, sS, sJ pt, sS, sJ (fMag cn), sS, sJ 0, sS, sJ 0, sS, sJ (fMag cn), sS, sJ 0, sS, sU, sU, sU, sU, sU, sU, sU, sU, sU, sU, sU, sU, sU, sU, sU, sU, sU, sU, sU, sU, sU, sU, sU, sU, sU, sU, sU, sU, sU, sU, sU, sU, sU, sU, sU, sU, sU, sU] [(.long (0 : Int64))]))
  refine Gl.go (fun _ hr => zXT_lstore X358.here hx rfl (hb hby d3_129) rfl (l' := #[.val (.ref x), sJ cn, sS, sJ 1, sS, sJ 0, sS, sJ pt, sS, sJ (fMag cn), sS, sJ 0, sS, sJ 0, sS, sJ (fMag cn), sS, sJ 0, sS, sJ 0, sS, sU, sU, sU, sU, sU, sU, sU, sU, sU, sU, sU, sU, sU, sU, sU, sU, sU, sU, sU, sU, sU, sU, sU, sU, sU, sU, sU, sU, sU, sU, sU, sU, sU, sU, sU, sU]) rfl (zXT_lload X358.here hx rfl (hb hby d3_131) rfl (zXS_sipush X358.here hx rfl (hb hby d3_133) (zXS_sipush X358.here hx rfl (hb hby d3_136) (zXT_lload X358.here hx rfl (hb hby d3_139) rfl hr))))) ?_
  have zz359 : n0 ≤ h0.size := by omega
  refine gStaticN Gl.cl (y := (⟨"java/lang/Long", "numberOfLeadingZeros", "(J)I"⟩ : MethodName)) (argsL := [(.long (0 : Int64))]) (rest := [(.int (192 : Int32)), (.int (255 : Int32)), (.long (0 : Int64))]) (mc := 0) (ms := 0) X358 hx hZ hown (mvT hZ (hw _ (List.mem_of_getElem? (i := 54) rfl))) (mvT hZ (hw _ (List.mem_of_getElem? (i := 55) rfl))) (mvT hZ (hw _ (List.mem_of_getElem? (i := 48) rfl))) (mvT hZ (hw _ (List.mem_of_getElem? (i := 56) rfl))) (by decide) (backOf (W := 4) (nlzj0 l Z a0 hw []  h0 n0 zz359 ) hZ (hw _ (List.mem_of_getElem? (i := 56) rfl)) (hw _ (List.mem_of_getElem? (i := 48) rfl)) (by decide) (by decide)) rfl (by rw [hml]; rfl) (lenOf pd_4 rfl) rfl (by show 2 * 0 + _ ≤ _; exact Nat.le_of_eq rfl) (hb hby d3_141) rfl e358 (by decide) (by decide) ?_
  intro v359 T359 Lc359 hQ359 X359
  obtain ⟨rfl, Nq359, e359⟩ := hQ359
  have N359 := Fr.app N357 Nq359
  refine Gl.go (fun _ hr => zXS_isub X359.here hx rfl (hb hby d3_144) rfl (zXS_isub X359.here hx rfl (hb hby d3_145) rfl (zXT_i2l X359.here hx rfl (hb hby d3_146) rfl (zXT_lcmp X359.here hx rfl (hb hby d3_147) rfl (zXS_ifYes X359.here hx rfl (pc0 := 148) (pc' := 161) rfl (hb hby d3_148) rfl (XT.ll_le_t (by decide)) (by decide) (by decide) (zXT_lload X359.here hx rfl (hb hby d3_161) rfl (zXS_bipush X359.here hx rfl (hb hby d3_163) (zXT_lushr X359.here hx rfl (hb hby d3_165) rfl (zXT_l2i X359.here hx rfl (hb hby d3_166) rfl (zXS_istore X359.here hx rfl (hb hby d3_167) rfl (l' := #[.val (.ref x), sJ cn, sS, sJ 1, sS, sJ 0, sS, sJ pt, sS, sJ (fMag cn), sS, sJ 0, sS, sJ 0, sS, sJ (fMag cn), sS, sJ 0, sS, sJ 0, sS, sI 0, sU, sU, sU, sU, sU, sU, sU, sU, sU, sU, sU, sU, sU, sU, sU, sU, sU, sU, sU, sU, sU, sU, sU, sU, sU, sU, sU, sU, sU, sU, sU, sU, sU, sU, sU]) rfl (zXT_lload X359.here hx rfl (hb hby d3_169) rfl hr))))))))))) ?_
  refine Gl.go (X359.ldc2Long hx hown (mvT hZ (hw _ (List.mem_of_getElem? (i := 61) rfl))) rfl (hb hby d3_171)) ?_
  refine Gl.go (fun _ hr => zXT_land X359.here hx rfl (hb hby d3_174) rfl (zXT_l2i X359.here hx rfl (hb hby d3_175) rfl (zXS_istore X359.here hx rfl (hb hby d3_176) rfl (l' := #[.val (.ref x), sJ cn, sS, sJ 1, sS, sJ 0, sS, sJ pt, sS, sJ (fMag cn), sS, sJ 0, sS, sJ 0, sS, sJ (fMag cn), sS, sJ 0, sS, sJ 0, sS, sI 0, sI 0, sU, sU, sU, sU, sU, sU, sU, sU, sU, sU, sU, sU, sU, sU, sU, sU, sU, sU, sU, sU, sU, sU, sU, sU, sU, sU, sU, sU, sU, sU, sU, sU, sU, sU]) rfl (zXT_lload X359.here hx rfl (hb hby d3_178) rfl (zXS_iload X359.here hx rfl (hb hby d3_180) rfl (zXT_lshl X359.here hx rfl (hb hby d3_182) rfl (zXT_lstore X359.here hx rfl (hb hby d3_183) rfl (l' := #[.val (.ref x), sJ cn, sS, sJ 1, sS, sJ 0, sS, sJ pt, sS, sJ (fMag cn), sS, sJ 0, sS, sJ 0, sS, sJ (fMag cn), sS, sJ 0, sS, sJ 0, sS, sI 0, sI 0, sJ 0, sS, sU, sU, sU, sU, sU, sU, sU, sU, sU, sU, sU, sU, sU, sU, sU, sU, sU, sU, sU, sU, sU, sU, sU, sU, sU, sU, sU, sU, sU, sU, sU, sU]) rfl (zXT_lload X359.here hx rfl (hb hby d3_185) rfl (zXS_iload X359.here hx rfl (hb hby d3_187) rfl (zXT_lshl X359.here hx rfl (hb hby d3_189) rfl hr)))))))))) ?_
  show Gl p.tables e below _ (T359.setTop (mkF m 190 #[.val (.ref x), sJ cn, sS, sJ 1, sS, sJ 0, sS, sJ pt, sS, sJ (fMag cn), sS, sJ 0, sS, sJ 0, sS, sJ (fMag cn), sS, sJ 0, sS, sJ 0, sS, sI 0, sI 0, sJ 0, sS, sU, sU, sU, sU, sU, sU, sU, sU, sU, sU, sU, sU, sU, sU, sU, sU, sU, sU, sU, sU, sU, sU, sU, sU, sU, sU, sU, sU, sU, sU, sU, sU] [(.long ((fMag cn) <<< ((0 : Int32).toInt64 &&& 63)))]))
  rw [own_shl0]
  show Gl p.tables e below _ (T359.setTop (mkF m 190 #[.val (.ref x), sJ cn, sS, sJ 1, sS, sJ 0, sS, sJ pt, sS, sJ (fMag cn), sS, sJ 0, sS, sJ 0, sS, sJ (fMag cn), sS, sJ 0, sS, sJ 0, sS, sI 0, sI 0, sJ 0, sS, sU, sU, sU, sU, sU, sU, sU, sU, sU, sU, sU, sU, sU, sU, sU, sU, sU, sU, sU, sU, sU, sU, sU, sU, sU, sU, sU, sU, sU, sU, sU, sU] [(.long (fMag cn))]))
  refine Gl.go (fun _ hr => zXS_iload X359.here hx rfl (hb hby d3_190) rfl (zXS_ifNo X359.here hx rfl (hb hby d3_192) rfl (XT.i0_ne_f (by decide)) (zXT_lconst X359.here hx rfl (hb hby d3_195) (zXS_goto X359.here hx rfl (pc0 := 196) (pc' := 207) rfl (hb hby d3_196) (by decide) (by decide) (zXT_lor X359.here hx rfl (hb hby d3_207) rfl hr))))) ?_
  show Gl p.tables e below _ (T359.setTop (mkF m 208 #[.val (.ref x), sJ cn, sS, sJ 1, sS, sJ 0, sS, sJ pt, sS, sJ (fMag cn), sS, sJ 0, sS, sJ 0, sS, sJ (fMag cn), sS, sJ 0, sS, sJ 0, sS, sI 0, sI 0, sJ 0, sS, sU, sU, sU, sU, sU, sU, sU, sU, sU, sU, sU, sU, sU, sU, sU, sU, sU, sU, sU, sU, sU, sU, sU, sU, sU, sU, sU, sU, sU, sU, sU, sU] [(.long ((fMag cn) ||| (0 : Int64)))]))
  rw [Int64.or_zero]
  show Gl p.tables e below _ (T359.setTop (mkF m 208 #[.val (.ref x), sJ cn, sS, sJ 1, sS, sJ 0, sS, sJ pt, sS, sJ (fMag cn), sS, sJ 0, sS, sJ 0, sS, sJ (fMag cn), sS, sJ 0, sS, sJ 0, sS, sI 0, sI 0, sJ 0, sS, sU, sU, sU, sU, sU, sU, sU, sU, sU, sU, sU, sU, sU, sU, sU, sU, sU, sU, sU, sU, sU, sU, sU, sU, sU, sU, sU, sU, sU, sU, sU, sU] [(.long (fMag cn))]))
  refine Gl.go (fun _ hr => zXT_lstore X359.here hx rfl (hb hby d3_208) rfl (l' := #[.val (.ref x), sJ cn, sS, sJ 1, sS, sJ 0, sS, sJ pt, sS, sJ (fMag cn), sS, sJ 0, sS, sJ 0, sS, sJ (fMag cn), sS, sJ 0, sS, sJ 0, sS, sI 0, sI 0, sJ 0, sS, sJ (fMag cn), sS, sU, sU, sU, sU, sU, sU, sU, sU, sU, sU, sU, sU, sU, sU, sU, sU, sU, sU, sU, sU, sU, sU, sU, sU, sU, sU, sU, sU, sU, sU]) rfl (zXT_lload X359.here hx rfl (hb hby d3_210) rfl (zXS_iload X359.here hx rfl (hb hby d3_212) rfl (zXT_lshl X359.here hx rfl (hb hby d3_214) rfl (zXS_iload X359.here hx rfl (hb hby d3_215) rfl (zXS_ifNo X359.here hx rfl (hb hby d3_217) rfl (XT.i0_ne_f (by decide)) (zXT_lconst X359.here hx rfl (hb hby d3_220) (zXS_goto X359.here hx rfl (pc0 := 221) (pc' := 232) rfl (hb hby d3_221) (by decide) (by decide) (zXT_lor X359.here hx rfl (hb hby d3_232) rfl (zXT_lstore X359.here hx rfl (hb hby d3_233) rfl (l' := #[.val (.ref x), sJ cn, sS, sJ 1, sS, sJ 0, sS, sJ pt, sS, sJ (fMag cn), sS, sJ 0, sS, sJ 0, sS, sJ (fMag cn), sS, sJ 0, sS, sJ 0, sS, sI 0, sI 0, sJ 0, sS, sJ (fMag cn), sS, sJ 0, sS, sU, sU, sU, sU, sU, sU, sU, sU, sU, sU, sU, sU, sU, sU, sU, sU, sU, sU, sU, sU, sU, sU, sU, sU, sU, sU, sU, sU]) rfl (zXS_iload X359.here hx rfl (hb hby d3_235) rfl (zXS_ifNo X359.here hx rfl (hb hby d3_237) rfl (XT.i0_ne_f (by decide)) (zXT_lconst X359.here hx rfl (hb hby d3_240) (zXS_goto X359.here hx rfl (pc0 := 241) (pc' := 252) rfl (hb hby d3_241) (by decide) (by decide) (zXT_lstore X359.here hx rfl (hb hby d3_252) rfl (l' := #[.val (.ref x), sJ cn, sS, sJ 1, sS, sJ 0, sS, sJ pt, sS, sJ (fMag cn), sS, sJ 0, sS, sJ 0, sS, sJ (fMag cn), sS, sJ 0, sS, sJ 0, sS, sI 0, sI 0, sJ 0, sS, sJ (fMag cn), sS, sJ 0, sS, sJ 0, sS, sU, sU, sU, sU, sU, sU, sU, sU, sU, sU, sU, sU, sU, sU, sU, sU, sU, sU, sU, sU, sU, sU, sU, sU, sU, sU]) rfl (zXS_iconst X359.here hx rfl (hb hby d3_254) hr)))))))))))))))) ?_
  refine Gl.go (fun _ hr => zXS_iload X359.here hx rfl (hb hby d3_255) rfl (zXT_lload X359.here hx rfl (hb hby d3_257) rfl (zXT_lload X359.here hx rfl (hb hby d3_259) rfl (zXT_lload X359.here hx rfl (hb hby d3_261) rfl (zXT_lload X359.here hx rfl (hb hby d3_263) rfl hr))))) ?_
  have zz360 : n0 ≤ h0.size := by omega
  refine gStaticN Gl.cl (y := (⟨"com/example/evenkeel/evenkeel/share/FlooredSum", "placed", "(IIJJJJ)J"⟩ : MethodName)) (argsL := [(.int (0 : Int32)), (.int (0 : Int32)), (.long (0 : Int64)), (.long (fMag cn)), (.long (0 : Int64)), (.long (0 : Int64))]) (rest := []) (mc := 0) (ms := 0) X359 hx hZ hown (mvT hZ (hw _ (List.mem_of_getElem? (i := 62) rfl))) (mvT hZ (hw _ (List.mem_of_getElem? (i := 63) rfl))) (mvT hZ (hw _ (List.mem_of_getElem? (i := 6) rfl))) (mvT hZ (hw _ (List.mem_of_getElem? (i := 64) rfl))) (by decide) (backOf (W := 0) (pl00 l Z a0 hw [] (0 : Int64) (fMag cn) (0 : Int64) (0 : Int64) h0 n0 zz360 ) hZ (hw _ (List.mem_of_getElem? (i := 64) rfl)) (hw _ (List.mem_of_getElem? (i := 6) rfl)) (by decide) (by decide)) rfl (by rw [hml]; rfl) (lenOf pd_5 rfl) rfl (by show 2 * 0 + _ ≤ _; exact Nat.le_of_eq rfl) (hb hby d3_265) rfl e359 (by decide) (by decide) ?_
  intro v360 T360 Lc360 hQ360 X360
  obtain ⟨rfl, Nq360, e360⟩ := hQ360
  have N360 := Fr.app N359 Nq360
  refine Gl.go (fun _ hr => zXT_lstore X360.here hx rfl (hb hby d3_268) rfl (l' := #[.val (.ref x), sJ cn, sS, sJ 1, sS, sJ 0, sS, sJ pt, sS, sJ (fMag cn), sS, sJ 0, sS, sJ 0, sS, sJ (fMag cn), sS, sJ 0, sS, sJ 0, sS, sI 0, sI 0, sJ 0, sS, sJ (fMag cn), sS, sJ 0, sS, sJ 0, sS, sJ 0, sS, sU, sU, sU, sU, sU, sU, sU, sU, sU, sU, sU, sU, sU, sU, sU, sU, sU, sU, sU, sU, sU, sU, sU, sU]) rfl (zXS_iconst X360.here hx rfl (hb hby d3_270) (zXS_iload X360.here hx rfl (hb hby d3_271) rfl (zXT_lload X360.here hx rfl (hb hby d3_273) rfl (zXT_lload X360.here hx rfl (hb hby d3_275) rfl (zXT_lload X360.here hx rfl (hb hby d3_277) rfl (zXT_lload X360.here hx rfl (hb hby d3_279) rfl hr))))))) ?_
  have zz361 : n0 ≤ h0.size := by omega
  refine gStaticN Gl.cl (y := (⟨"com/example/evenkeel/evenkeel/share/FlooredSum", "placed", "(IIJJJJ)J"⟩ : MethodName)) (argsL := [(.int (1 : Int32)), (.int (0 : Int32)), (.long (0 : Int64)), (.long (fMag cn)), (.long (0 : Int64)), (.long (0 : Int64))]) (rest := []) (mc := 0) (ms := 0) X360 hx hZ hown (mvT hZ (hw _ (List.mem_of_getElem? (i := 62) rfl))) (mvT hZ (hw _ (List.mem_of_getElem? (i := 63) rfl))) (mvT hZ (hw _ (List.mem_of_getElem? (i := 6) rfl))) (mvT hZ (hw _ (List.mem_of_getElem? (i := 64) rfl))) (by decide) (backOf (W := 0) (pl10 l Z a0 hw [] (0 : Int64) (fMag cn) (0 : Int64) (0 : Int64) h0 n0 zz361 ) hZ (hw _ (List.mem_of_getElem? (i := 64) rfl)) (hw _ (List.mem_of_getElem? (i := 6) rfl)) (by decide) (by decide)) rfl (by rw [hml]; rfl) (lenOf pd_5 rfl) rfl (by show 2 * 0 + _ ≤ _; exact Nat.le_of_eq rfl) (hb hby d3_281) rfl e360 (by decide) (by decide) ?_
  intro v361 T361 Lc361 hQ361 X361
  obtain ⟨rfl, Nq361, e361⟩ := hQ361
  have N361 := Fr.app N360 Nq361
  refine Gl.go (fun _ hr => zXT_lstore X361.here hx rfl (hb hby d3_284) rfl (l' := #[.val (.ref x), sJ cn, sS, sJ 1, sS, sJ 0, sS, sJ pt, sS, sJ (fMag cn), sS, sJ 0, sS, sJ 0, sS, sJ (fMag cn), sS, sJ 0, sS, sJ 0, sS, sI 0, sI 0, sJ 0, sS, sJ (fMag cn), sS, sJ 0, sS, sJ 0, sS, sJ 0, sS, sJ (fMag cn), sS, sU, sU, sU, sU, sU, sU, sU, sU, sU, sU, sU, sU, sU, sU, sU, sU, sU, sU, sU, sU, sU, sU]) rfl (zXS_iconst X361.here hx rfl (hb hby d3_286) (zXS_iload X361.here hx rfl (hb hby d3_287) rfl (zXT_lload X361.here hx rfl (hb hby d3_289) rfl (zXT_lload X361.here hx rfl (hb hby d3_291) rfl (zXT_lload X361.here hx rfl (hb hby d3_293) rfl (zXT_lload X361.here hx rfl (hb hby d3_295) rfl hr))))))) ?_
  have zz362 : n0 ≤ h0.size := by omega
  refine gStaticN Gl.cl (y := (⟨"com/example/evenkeel/evenkeel/share/FlooredSum", "placed", "(IIJJJJ)J"⟩ : MethodName)) (argsL := [(.int (2 : Int32)), (.int (0 : Int32)), (.long (0 : Int64)), (.long (fMag cn)), (.long (0 : Int64)), (.long (0 : Int64))]) (rest := []) (mc := 0) (ms := 0) X361 hx hZ hown (mvT hZ (hw _ (List.mem_of_getElem? (i := 62) rfl))) (mvT hZ (hw _ (List.mem_of_getElem? (i := 63) rfl))) (mvT hZ (hw _ (List.mem_of_getElem? (i := 6) rfl))) (mvT hZ (hw _ (List.mem_of_getElem? (i := 64) rfl))) (by decide) (backOf (W := 0) (pl20 l Z a0 hw [] (0 : Int64) (fMag cn) (0 : Int64) (0 : Int64) h0 n0 zz362 ) hZ (hw _ (List.mem_of_getElem? (i := 64) rfl)) (hw _ (List.mem_of_getElem? (i := 6) rfl)) (by decide) (by decide)) rfl (by rw [hml]; rfl) (lenOf pd_5 rfl) rfl (by show 2 * 0 + _ ≤ _; exact Nat.le_of_eq rfl) (hb hby d3_297) rfl e361 (by decide) (by decide) ?_
  intro v362 T362 Lc362 hQ362 X362
  obtain ⟨rfl, Nq362, e362⟩ := hQ362
  have N362 := Fr.app N361 Nq362
  refine Gl.go (fun _ hr => zXT_lstore X362.here hx rfl (hb hby d3_300) rfl (l' := #[.val (.ref x), sJ cn, sS, sJ 1, sS, sJ 0, sS, sJ pt, sS, sJ (fMag cn), sS, sJ 0, sS, sJ 0, sS, sJ (fMag cn), sS, sJ 0, sS, sJ 0, sS, sI 0, sI 0, sJ 0, sS, sJ (fMag cn), sS, sJ 0, sS, sJ 0, sS, sJ 0, sS, sJ (fMag cn), sS, sJ 0, sS, sU, sU, sU, sU, sU, sU, sU, sU, sU, sU, sU, sU, sU, sU, sU, sU, sU, sU, sU, sU]) rfl (zXS_iconst X362.here hx rfl (hb hby d3_302) (zXS_iload X362.here hx rfl (hb hby d3_303) rfl (zXT_lload X362.here hx rfl (hb hby d3_305) rfl (zXT_lload X362.here hx rfl (hb hby d3_307) rfl (zXT_lload X362.here hx rfl (hb hby d3_309) rfl (zXT_lload X362.here hx rfl (hb hby d3_311) rfl hr))))))) ?_
  have zz363 : n0 ≤ h0.size := by omega
  refine gStaticN Gl.cl (y := (⟨"com/example/evenkeel/evenkeel/share/FlooredSum", "placed", "(IIJJJJ)J"⟩ : MethodName)) (argsL := [(.int (3 : Int32)), (.int (0 : Int32)), (.long (0 : Int64)), (.long (fMag cn)), (.long (0 : Int64)), (.long (0 : Int64))]) (rest := []) (mc := 0) (ms := 0) X362 hx hZ hown (mvT hZ (hw _ (List.mem_of_getElem? (i := 62) rfl))) (mvT hZ (hw _ (List.mem_of_getElem? (i := 63) rfl))) (mvT hZ (hw _ (List.mem_of_getElem? (i := 6) rfl))) (mvT hZ (hw _ (List.mem_of_getElem? (i := 64) rfl))) (by decide) (backOf (W := 0) (pl30 l Z a0 hw [] (0 : Int64) (fMag cn) (0 : Int64) (0 : Int64) h0 n0 zz363 ) hZ (hw _ (List.mem_of_getElem? (i := 64) rfl)) (hw _ (List.mem_of_getElem? (i := 6) rfl)) (by decide) (by decide)) rfl (by rw [hml]; rfl) (lenOf pd_5 rfl) rfl (by show 2 * 0 + _ ≤ _; exact Nat.le_of_eq rfl) (hb hby d3_313) rfl e362 (by decide) (by decide) ?_
  intro v363 T363 Lc363 hQ363 X363
  obtain ⟨rfl, Nq363, e363⟩ := hQ363
  have N363 := Fr.app N362 Nq363
  refine Gl.go (fun _ hr => zXT_lstore X363.here hx rfl (hb hby d3_316) rfl (l' := #[.val (.ref x), sJ cn, sS, sJ 1, sS, sJ 0, sS, sJ pt, sS, sJ (fMag cn), sS, sJ 0, sS, sJ 0, sS, sJ (fMag cn), sS, sJ 0, sS, sJ 0, sS, sI 0, sI 0, sJ 0, sS, sJ (fMag cn), sS, sJ 0, sS, sJ 0, sS, sJ 0, sS, sJ (fMag cn), sS, sJ 0, sS, sJ 0, sS, sU, sU, sU, sU, sU, sU, sU, sU, sU, sU, sU, sU, sU, sU, sU, sU, sU, sU]) rfl (zXT_lloadN X363.here hx rfl (hb hby d3_318) rfl (zXT_lconst X363.here hx rfl (hb hby d3_319) (zXT_lcmp X363.here hx rfl (hb hby d3_320) rfl hr)))) ?_
  by_cases hc364 : cn < (0 : Int64)
  · refine Gl.go (fun _ hr => zXS_ifNo X363.here hx rfl (hb hby d3_321) rfl (XT.ll_ge_f hc364) (zXT_lload X363.here hx rfl (hb hby d3_324) rfl hr)) ?_
    refine Gl.go (X363.ldc2Long hx hown (mvT hZ (hw _ (List.mem_of_getElem? (i := 67) rfl))) rfl (hb hby d3_326)) ?_
    refine Gl.go (fun _ hr => zXT_lxor X363.here hx rfl (hb hby d3_329) rfl (zXT_lconst X363.here hx rfl (hb hby d3_330) (zXT_ladd X363.here hx rfl (hb hby d3_331) rfl (zXT_lstore X363.here hx rfl (hb hby d3_332) rfl (l' := #[.val (.ref x), sJ cn, sS, sJ 1, sS, sJ 0, sS, sJ pt, sS, sJ (fMag cn), sS, sJ 0, sS, sJ 0, sS, sJ (fMag cn), sS, sJ 0, sS, sJ 0, sS, sI 0, sI 0, sJ 0, sS, sJ (fMag cn), sS, sJ 0, sS, sJ 0, sS, sJ 0, sS, sJ (fMag cn), sS, sJ 0, sS, sJ 0, sS, sU, sU, sU, sU, sU, sU, sU, sU, sU, sU, sU, sU, sU, sU, sU, sU, sU, sU]) rfl (zXT_lload X363.here hx rfl (hb hby d3_334) rfl (zXT_lconst X363.here hx rfl (hb hby d3_336) (zXT_lcmp X363.here hx rfl (hb hby d3_337) rfl (zXS_ifNo X363.here hx rfl (hb hby d3_338) rfl (XT.ll_ne_f (by decide)) (zXT_lconst X363.here hx rfl (hb hby d3_341) (zXS_goto X363.here hx rfl (pc0 := 342) (pc' := 346) rfl (hb hby d3_342) (by decide) (by decide) (zXT_lstore X363.here hx rfl (hb hby d3_346) rfl (l' := #[.val (.ref x), sJ cn, sS, sJ 1, sS, sJ 0, sS, sJ pt, sS, sJ (fMag cn), sS, sJ 0, sS, sJ 0, sS, sJ (fMag cn), sS, sJ 0, sS, sJ 0, sS, sI 0, sI 0, sJ 0, sS, sJ (fMag cn), sS, sJ 0, sS, sJ 0, sS, sJ 0, sS, sJ (fMag cn), sS, sJ 0, sS, sJ 0, sS, sJ 1, sS, sU, sU, sU, sU, sU, sU, sU, sU, sU, sU, sU, sU, sU, sU, sU, sU]) rfl (zXT_lload X363.here hx rfl (hb hby d3_348) rfl hr)))))))))))) ?_
    refine Gl.go (X363.ldc2Long hx hown (mvT hZ (hw _ (List.mem_of_getElem? (i := 67) rfl))) rfl (hb hby d3_350)) ?_
    refine Gl.go (fun _ hr => zXT_lxor X363.here hx rfl (hb hby d3_353) rfl (zXT_lload X363.here hx rfl (hb hby d3_354) rfl (zXT_ladd X363.here hx rfl (hb hby d3_356) rfl hr))) ?_
    show Gl p.tables e below _ (T363.setTop (mkF m 357 #[.val (.ref x), sJ cn, sS, sJ 1, sS, sJ 0, sS, sJ pt, sS, sJ (fMag cn), sS, sJ 0, sS, sJ 0, sS, sJ (fMag cn), sS, sJ 0, sS, sJ 0, sS, sI 0, sI 0, sJ 0, sS, sJ (fMag cn), sS, sJ 0, sS, sJ 0, sS, sJ 0, sS, sJ (fMag cn), sS, sJ 0, sS, sJ 0, sS, sJ 1, sS, sU, sU, sU, sU, sU, sU, sU, sU, sU, sU, sU, sU, sU, sU, sU, sU] [(.long (((fMag cn) ^^^ (-1 : Int64)) + (1 : Int64)))]))
    rw [own_neg]
    show Gl p.tables e below _ (T363.setTop (mkF m 357 #[.val (.ref x), sJ cn, sS, sJ 1, sS, sJ 0, sS, sJ pt, sS, sJ (fMag cn), sS, sJ 0, sS, sJ 0, sS, sJ (fMag cn), sS, sJ 0, sS, sJ 0, sS, sI 0, sI 0, sJ 0, sS, sJ (fMag cn), sS, sJ 0, sS, sJ 0, sS, sJ 0, sS, sJ (fMag cn), sS, sJ 0, sS, sJ 0, sS, sJ 1, sS, sU, sU, sU, sU, sU, sU, sU, sU, sU, sU, sU, sU, sU, sU, sU, sU] [(.long (-(fMag cn)))]))
    refine Gl.go (fun _ hr => zXT_lstore X363.here hx rfl (hb hby d3_357) rfl (l' := #[.val (.ref x), sJ cn, sS, sJ 1, sS, sJ 0, sS, sJ pt, sS, sJ (fMag cn), sS, sJ 0, sS, sJ 0, sS, sJ (fMag cn), sS, sJ 0, sS, sJ 0, sS, sI 0, sI 0, sJ 0, sS, sJ (fMag cn), sS, sJ 0, sS, sJ 0, sS, sJ 0, sS, sJ (-(fMag cn)), sS, sJ 0, sS, sJ 0, sS, sJ 1, sS, sU, sU, sU, sU, sU, sU, sU, sU, sU, sU, sU, sU, sU, sU, sU, sU]) rfl (zXT_lload X363.here hx rfl (hb hby d3_359) rfl (zXT_lconst X363.here hx rfl (hb hby d3_361) (zXT_lcmp X363.here hx rfl (hb hby d3_362) rfl (zXS_ifNo X363.here hx rfl (hb hby d3_363) rfl (XT.ll_ne_f (by decide)) (zXT_lload X363.here hx rfl (hb hby d3_366) rfl (zXT_lconst X363.here hx rfl (hb hby d3_368) (zXT_lcmp X363.here hx rfl (hb hby d3_369) rfl hr)))))))) ?_
    refine Gl.go (fun _ hr => zXS_ifYes X363.here hx rfl (pc0 := 370) (pc' := 377) rfl (hb hby d3_370) rfl (XT.ll_ne_t hneg) (by decide) (by decide) (zXT_lconst X363.here hx rfl (hb hby d3_377) (zXT_lstore X363.here hx rfl (hb hby d3_378) rfl (l' := #[.val (.ref x), sJ cn, sS, sJ 1, sS, sJ 0, sS, sJ pt, sS, sJ (fMag cn), sS, sJ 0, sS, sJ 0, sS, sJ (fMag cn), sS, sJ 0, sS, sJ 0, sS, sI 0, sI 0, sJ 0, sS, sJ (fMag cn), sS, sJ 0, sS, sJ 0, sS, sJ 0, sS, sJ (-(fMag cn)), sS, sJ 0, sS, sJ 0, sS, sJ 1, sS, sJ 0, sS, sU, sU, sU, sU, sU, sU, sU, sU, sU, sU, sU, sU, sU, sU]) rfl (zXT_lload X363.here hx rfl (hb hby d3_380) rfl hr)))) ?_
    refine Gl.go (X363.ldc2Long hx hown (mvT hZ (hw _ (List.mem_of_getElem? (i := 67) rfl))) rfl (hb hby d3_382)) ?_
    refine Gl.go (fun _ hr => zXT_lxor X363.here hx rfl (hb hby d3_385) rfl (zXT_lload X363.here hx rfl (hb hby d3_386) rfl (zXT_ladd X363.here hx rfl (hb hby d3_388) rfl (zXT_lstore X363.here hx rfl (hb hby d3_389) rfl (l' := #[.val (.ref x), sJ cn, sS, sJ 1, sS, sJ 0, sS, sJ pt, sS, sJ (fMag cn), sS, sJ 0, sS, sJ 0, sS, sJ (fMag cn), sS, sJ 0, sS, sJ 0, sS, sI 0, sI 0, sJ 0, sS, sJ (fMag cn), sS, sJ 0, sS, sJ 0, sS, sJ 0, sS, sJ (-(fMag cn)), sS, sJ (-1), sS, sJ 0, sS, sJ 1, sS, sJ 0, sS, sU, sU, sU, sU, sU, sU, sU, sU, sU, sU, sU, sU, sU, sU]) rfl (zXT_lload X363.here hx rfl (hb hby d3_391) rfl (zXT_lconst X363.here hx rfl (hb hby d3_393) (zXT_lcmp X363.here hx rfl (hb hby d3_394) rfl (zXS_ifYes X363.here hx rfl (pc0 := 395) (pc' := 409) rfl (hb hby d3_395) rfl (XT.ll_ne_t (by decide)) (by decide) (by decide) (zXT_lconst X363.here hx rfl (hb hby d3_409) (zXT_lstore X363.here hx rfl (hb hby d3_410) rfl (l' := #[.val (.ref x), sJ cn, sS, sJ 1, sS, sJ 0, sS, sJ pt, sS, sJ (fMag cn), sS, sJ 0, sS, sJ 0, sS, sJ (fMag cn), sS, sJ 0, sS, sJ 0, sS, sI 0, sI 0, sJ 0, sS, sJ (fMag cn), sS, sJ 0, sS, sJ 0, sS, sJ 0, sS, sJ (-(fMag cn)), sS, sJ (-1), sS, sJ 0, sS, sJ 1, sS, sJ 0, sS, sJ 0, sS, sU, sU, sU, sU, sU, sU, sU, sU, sU, sU, sU, sU]) rfl (zXT_lload X363.here hx rfl (hb hby d3_412) rfl hr))))))))))) ?_
    refine Gl.go (X363.ldc2Long hx hown (mvT hZ (hw _ (List.mem_of_getElem? (i := 67) rfl))) rfl (hb hby d3_414)) ?_
    refine Gl.go (fun _ hr => zXT_lxor X363.here hx rfl (hb hby d3_417) rfl (zXT_lload X363.here hx rfl (hb hby d3_418) rfl (zXT_ladd X363.here hx rfl (hb hby d3_420) rfl (zXT_lstore X363.here hx rfl (hb hby d3_421) rfl (l' := #[.val (.ref x), sJ cn, sS, sJ 1, sS, sJ 0, sS, sJ pt, sS, sJ (fMag cn), sS, sJ 0, sS, sJ 0, sS, sJ (fMag cn), sS, sJ 0, sS, sJ 0, sS, sI 0, sI 0, sJ 0, sS, sJ (fMag cn), sS, sJ 0, sS, sJ 0, sS, sJ 0, sS, sJ (-(fMag cn)), sS, sJ (-1), sS, sJ (-1), sS, sJ 1, sS, sJ 0, sS, sJ 0, sS, sU, sU, sU, sU, sU, sU, sU, sU, sU, sU, sU, sU]) rfl (zXS_aloadN X363.here hx rfl (hb hby d3_423) rfl rfl hr))))) ?_
    refine gGetF (host := "") Gl.cl X363 hx hZ hown (Or.inl (hw _ (List.mem_of_getElem? (i := 27) rfl))) Via.refl e363 q3 rfl rfl (hb hby d3_424) ?_
    intro T365 X365 e365
    refine Gl.go (fun _ hr => zXT_lload X365.here hx rfl (hb hby d3_427) rfl (zXT_ladd X365.here hx rfl (hb hby d3_429) rfl (zXT_lstore X365.here hx rfl (hb hby d3_430) rfl (l' := #[.val (.ref x), sJ cn, sS, sJ 1, sS, sJ 0, sS, sJ pt, sS, sJ (fMag cn), sS, sJ 0, sS, sJ 0, sS, sJ (fMag cn), sS, sJ 0, sS, sJ 0, sS, sI 0, sI 0, sJ 0, sS, sJ (fMag cn), sS, sJ 0, sS, sJ 0, sS, sJ 0, sS, sJ (-(fMag cn)), sS, sJ (-1), sS, sJ (-1), sS, sJ (l0 + (0 : Int64)), sS, sJ 0, sS, sJ 0, sS, sU, sU, sU, sU, sU, sU, sU, sU, sU, sU, sU, sU]) rfl (zXT_lload X365.here hx rfl (hb hby d3_432) rfl (zXS_aloadN X365.here hx rfl (hb hby d3_434) rfl rfl hr))))) ?_
    refine gGetF (host := "") Gl.cl X365 hx hZ hown (Or.inl (hw _ (List.mem_of_getElem? (i := 27) rfl))) Via.refl e365 q3 rfl rfl (hb hby d3_435) ?_
    intro T366 X366 e366
    have zz367 : n0 ≤ h0.size := by omega
    refine gStaticN Gl.cl (y := (⟨"java/lang/Long", "compareUnsigned", "(JJ)I"⟩ : MethodName)) (argsL := [(.long (l0 + (0 : Int64))), (.long l0)]) (rest := []) (mc := 0) (ms := 0) X366 hx hZ hown (mvT hZ (hw _ (List.mem_of_getElem? (i := 46) rfl))) (mvT hZ (hw _ (List.mem_of_getElem? (i := 47) rfl))) (mvT hZ (hw _ (List.mem_of_getElem? (i := 48) rfl))) (mvT hZ (hw _ (List.mem_of_getElem? (i := 49) rfl))) (by decide) (backOf (W := 0) (cum l Z a0 hw [] (l0 + (0 : Int64)) l0 h0 n0 zz367 ) hZ (hw _ (List.mem_of_getElem? (i := 49) rfl)) (hw _ (List.mem_of_getElem? (i := 48) rfl)) (by decide) (by decide)) rfl (by rw [hml]; rfl) (lenOf pd_1 rfl) rfl (by show 2 * 0 + _ ≤ _; exact Nat.le_of_eq rfl) (hb hby d3_438) rfl e366 (by decide) (by decide) ?_
    intro v367 T367 Lc367 hQ367 X367
    obtain ⟨rfl, Nq367, e367⟩ := hQ367
    have N367 := Fr.app N363 Nq367
    refine Gl.go (fun _ hr => zXS_ifYes X367.here hx rfl (pc0 := 441) (pc' := 448) rfl (hb hby d3_441) rfl (XT.i0_ge_t (own_cuadd0 _)) (by decide) (by decide) (zXT_lconst X367.here hx rfl (hb hby d3_448) (zXT_lstore X367.here hx rfl (hb hby d3_449) rfl (l' := #[.val (.ref x), sJ cn, sS, sJ 1, sS, sJ 0, sS, sJ pt, sS, sJ (fMag cn), sS, sJ 0, sS, sJ 0, sS, sJ (fMag cn), sS, sJ 0, sS, sJ 0, sS, sI 0, sI 0, sJ 0, sS, sJ (fMag cn), sS, sJ 0, sS, sJ 0, sS, sJ 0, sS, sJ (-(fMag cn)), sS, sJ (-1), sS, sJ (-1), sS, sJ (l0 + (0 : Int64)), sS, sJ 0, sS, sJ 0, sS, sU, sU, sU, sU, sU, sU, sU, sU, sU, sU, sU, sU]) rfl (zXS_aloadN X367.here hx rfl (hb hby d3_451) rfl rfl hr)))) ?_
    refine gGetF (host := "") Gl.cl X367 hx hZ hown (Or.inl (hw _ (List.mem_of_getElem? (i := 29) rfl))) Via.refl e367 q4 rfl rfl (hb hby d3_452) ?_
    intro T368 X368 e368
    refine Gl.go (fun _ hr => zXT_lload X368.here hx rfl (hb hby d3_455) rfl (zXT_ladd X368.here hx rfl (hb hby d3_457) rfl (zXT_lstore X368.here hx rfl (hb hby d3_458) rfl (l' := #[.val (.ref x), sJ cn, sS, sJ 1, sS, sJ 0, sS, sJ pt, sS, sJ (fMag cn), sS, sJ 0, sS, sJ 0, sS, sJ (fMag cn), sS, sJ 0, sS, sJ 0, sS, sI 0, sI 0, sJ 0, sS, sJ (fMag cn), sS, sJ 0, sS, sJ 0, sS, sJ 0, sS, sJ (-(fMag cn)), sS, sJ (-1), sS, sJ (-1), sS, sJ (l0 + (0 : Int64)), sS, sJ 0, sS, sJ (l1 + (-(fMag cn))), sS, sU, sU, sU, sU, sU, sU, sU, sU, sU, sU, sU, sU]) rfl (zXT_lload X368.here hx rfl (hb hby d3_460) rfl (zXT_lload X368.here hx rfl (hb hby d3_462) rfl (zXT_ladd X368.here hx rfl (hb hby d3_464) rfl (zXT_lstore X368.here hx rfl (hb hby d3_465) rfl (l' := #[.val (.ref x), sJ cn, sS, sJ 1, sS, sJ 0, sS, sJ pt, sS, sJ (fMag cn), sS, sJ 0, sS, sJ 0, sS, sJ (fMag cn), sS, sJ 0, sS, sJ 0, sS, sI 0, sI 0, sJ 0, sS, sJ (fMag cn), sS, sJ 0, sS, sJ 0, sS, sJ 0, sS, sJ (-(fMag cn)), sS, sJ (-1), sS, sJ (-1), sS, sJ (l0 + (0 : Int64)), sS, sJ 0, sS, sJ (l1 + (-(fMag cn))), sS, sJ ((l1 + (-(fMag cn))) + (0 : Int64)), sS, sU, sU, sU, sU, sU, sU, sU, sU, sU, sU]) rfl (zXT_lload X368.here hx rfl (hb hby d3_467) rfl (zXS_aloadN X368.here hx rfl (hb hby d3_469) rfl rfl hr))))))))) ?_
    refine gGetF (host := "") Gl.cl X368 hx hZ hown (Or.inl (hw _ (List.mem_of_getElem? (i := 29) rfl))) Via.refl e368 q4 rfl rfl (hb hby d3_470) ?_
    intro T369 X369 e369
    have zz370 : n0 ≤ h0.size := by omega
    refine gStaticN Gl.cl (y := (⟨"java/lang/Long", "compareUnsigned", "(JJ)I"⟩ : MethodName)) (argsL := [(.long (l1 + (-(fMag cn)))), (.long l1)]) (rest := []) (mc := 0) (ms := 0) X369 hx hZ hown (mvT hZ (hw _ (List.mem_of_getElem? (i := 46) rfl))) (mvT hZ (hw _ (List.mem_of_getElem? (i := 47) rfl))) (mvT hZ (hw _ (List.mem_of_getElem? (i := 48) rfl))) (mvT hZ (hw _ (List.mem_of_getElem? (i := 49) rfl))) (by decide) (backOf (W := 0) (cum l Z a0 hw [] (l1 + (-(fMag cn))) l1 h0 n0 zz370 ) hZ (hw _ (List.mem_of_getElem? (i := 49) rfl)) (hw _ (List.mem_of_getElem? (i := 48) rfl)) (by decide) (by decide)) rfl (by rw [hml]; rfl) (lenOf pd_1 rfl) rfl (by show 2 * 0 + _ ≤ _; exact Nat.le_of_eq rfl) (hb hby d3_473) rfl e369 (by decide) (by decide) ?_
    intro v370 T370 Lc370 hQ370 X370
    obtain ⟨rfl, Nq370, e370⟩ := hQ370
    have N370 := Fr.app N367 Nq370
    obtain ⟨T371, ⟨lc371, N371, X371, e371⟩, st371⟩ : Sg (fun U => ∃ lc, Fr n0 lc ∧ Stand p l e ({ frames := 2, cells := 0, slots := 0, locals := 50 } : Room) s m #[(.ref x), (.long cn), (.long (1 : Int64)), (.long (0 : Int64)), (.long pt)] below meth c U lc 0 0 ∧ U.heap = h0) (mkF m 494 #[.val (.ref x), sJ cn, sS, sJ 1, sS, sJ 0, sS, sJ pt, sS, sJ (fMag cn), sS, sJ 0, sS, sJ 0, sS, sJ (fMag cn), sS, sJ 0, sS, sJ 0, sS, sI 0, sI 0, sJ 0, sS, sJ (fMag cn), sS, sJ 0, sS, sJ 0, sS, sJ 0, sS, sJ (-(fMag cn)), sS, sJ (-1), sS, sJ (-1), sS, sJ (l0 + (0 : Int64)), sS, sJ 0, sS, sJ (l1 + (-(fMag cn))), sS, sJ ((l1 + (-(fMag cn))) + (0 : Int64)), sS, sU, sU, sU, sU, sU, sU, sU, sU, sU, sU] [(.long (if cu (l1 + (-(fMag cn))) l1 < 0 ∨ cu ((l1 + (-(fMag cn))) + (0 : Int64)) (l1 + (-(fMag cn))) < 0 then (1 : Int64) else 0))]) p.tables e below (T370.setTop (mkF m 476 #[.val (.ref x), sJ cn, sS, sJ 1, sS, sJ 0, sS, sJ pt, sS, sJ (fMag cn), sS, sJ 0, sS, sJ 0, sS, sJ (fMag cn), sS, sJ 0, sS, sJ 0, sS, sI 0, sI 0, sJ 0, sS, sJ (fMag cn), sS, sJ 0, sS, sJ 0, sS, sJ 0, sS, sJ (-(fMag cn)), sS, sJ (-1), sS, sJ (-1), sS, sJ (l0 + (0 : Int64)), sS, sJ 0, sS, sJ (l1 + (-(fMag cn))), sS, sJ ((l1 + (-(fMag cn))) + (0 : Int64)), sS, sU, sU, sU, sU, sU, sU, sU, sU, sU, sU] [(.int (cu (l1 + (-(fMag cn))) l1))])) := by
      by_cases hc372 : (cu (l1 + (-(fMag cn))) l1) < (0 : Int32)
      · refine Sg.go (fun _ hr => zXS_ifYes X370.here hx rfl (pc0 := 476) (pc' := 489) rfl (hb hby d3_476) rfl (XT.i0_lt_t hc372) (by decide) (by decide) (zXT_lconst X370.here hx rfl (hb hby d3_489) (zXS_goto X370.here hx rfl (pc0 := 490) (pc' := 494) rfl (hb hby d3_490) (by decide) (by decide) hr))) ?_
        show Sg _ _ p.tables e below (T370.setTop (mkF m 494 #[.val (.ref x), sJ cn, sS, sJ 1, sS, sJ 0, sS, sJ pt, sS, sJ (fMag cn), sS, sJ 0, sS, sJ 0, sS, sJ (fMag cn), sS, sJ 0, sS, sJ 0, sS, sI 0, sI 0, sJ 0, sS, sJ (fMag cn), sS, sJ 0, sS, sJ 0, sS, sJ 0, sS, sJ (-(fMag cn)), sS, sJ (-1), sS, sJ (-1), sS, sJ (l0 + (0 : Int64)), sS, sJ 0, sS, sJ (l1 + (-(fMag cn))), sS, sJ ((l1 + (-(fMag cn))) + (0 : Int64)), sS, sU, sU, sU, sU, sU, sU, sU, sU, sU, sU] [(.long (1 : Int64))]))
        exact ⟨T370, ⟨_, N370, X370, e370⟩, fun _ hr => by rw [if_pos (Or.inl hc372)] at hr; exact hr⟩
      · refine Sg.go (fun _ hr => zXS_ifNo X370.here hx rfl (hb hby d3_476) rfl (XT.i0_lt_f hc372) (zXT_lload X370.here hx rfl (hb hby d3_479) rfl (zXT_lload X370.here hx rfl (hb hby d3_481) rfl hr))) ?_
        have zz373 : n0 ≤ h0.size := by omega
        refine gStaticN Sg.cl (y := (⟨"java/lang/Long", "compareUnsigned", "(JJ)I"⟩ : MethodName)) (argsL := [(.long ((l1 + (-(fMag cn))) + (0 : Int64))), (.long (l1 + (-(fMag cn))))]) (rest := []) (mc := 0) (ms := 0) X370 hx hZ hown (mvT hZ (hw _ (List.mem_of_getElem? (i := 46) rfl))) (mvT hZ (hw _ (List.mem_of_getElem? (i := 47) rfl))) (mvT hZ (hw _ (List.mem_of_getElem? (i := 48) rfl))) (mvT hZ (hw _ (List.mem_of_getElem? (i := 49) rfl))) (by decide) (backOf (W := 0) (cum l Z a0 hw [] ((l1 + (-(fMag cn))) + (0 : Int64)) (l1 + (-(fMag cn))) h0 n0 zz373 ) hZ (hw _ (List.mem_of_getElem? (i := 49) rfl)) (hw _ (List.mem_of_getElem? (i := 48) rfl)) (by decide) (by decide)) rfl (by rw [hml]; rfl) (lenOf pd_1 rfl) rfl (by show 2 * 0 + _ ≤ _; exact Nat.le_of_eq rfl) (hb hby d3_483) rfl e370 (by decide) (by decide) ?_
        intro v373 T373 Lc373 hQ373 X373
        obtain ⟨rfl, Nq373, e373⟩ := hQ373
        have N373 := Fr.app N370 Nq373
        by_cases hc374 : (cu ((l1 + (-(fMag cn))) + (0 : Int64)) (l1 + (-(fMag cn)))) < (0 : Int32)
        · refine Sg.go (fun _ hr => zXS_ifNo X373.here hx rfl (hb hby d3_486) rfl (XT.i0_ge_f hc374) (zXT_lconst X373.here hx rfl (hb hby d3_489) (zXS_goto X373.here hx rfl (pc0 := 490) (pc' := 494) rfl (hb hby d3_490) (by decide) (by decide) hr))) ?_
          show Sg _ _ p.tables e below (T373.setTop (mkF m 494 #[.val (.ref x), sJ cn, sS, sJ 1, sS, sJ 0, sS, sJ pt, sS, sJ (fMag cn), sS, sJ 0, sS, sJ 0, sS, sJ (fMag cn), sS, sJ 0, sS, sJ 0, sS, sI 0, sI 0, sJ 0, sS, sJ (fMag cn), sS, sJ 0, sS, sJ 0, sS, sJ 0, sS, sJ (-(fMag cn)), sS, sJ (-1), sS, sJ (-1), sS, sJ (l0 + (0 : Int64)), sS, sJ 0, sS, sJ (l1 + (-(fMag cn))), sS, sJ ((l1 + (-(fMag cn))) + (0 : Int64)), sS, sU, sU, sU, sU, sU, sU, sU, sU, sU, sU] [(.long (1 : Int64))]))
          exact ⟨T373, ⟨_, N373, X373, e373⟩, fun _ hr => by rw [if_pos (Or.inr hc374)] at hr; exact hr⟩
        · refine Sg.go (fun _ hr => zXS_ifYes X373.here hx rfl (pc0 := 486) (pc' := 493) rfl (hb hby d3_486) rfl (XT.i0_ge_t hc374) (by decide) (by decide) (zXT_lconst X373.here hx rfl (hb hby d3_493) hr)) ?_
          show Sg _ _ p.tables e below (T373.setTop (mkF m 494 #[.val (.ref x), sJ cn, sS, sJ 1, sS, sJ 0, sS, sJ pt, sS, sJ (fMag cn), sS, sJ 0, sS, sJ 0, sS, sJ (fMag cn), sS, sJ 0, sS, sJ 0, sS, sI 0, sI 0, sJ 0, sS, sJ (fMag cn), sS, sJ 0, sS, sJ 0, sS, sJ 0, sS, sJ (-(fMag cn)), sS, sJ (-1), sS, sJ (-1), sS, sJ (l0 + (0 : Int64)), sS, sJ 0, sS, sJ (l1 + (-(fMag cn))), sS, sJ ((l1 + (-(fMag cn))) + (0 : Int64)), sS, sU, sU, sU, sU, sU, sU, sU, sU, sU, sU] [(.long (0 : Int64))]))
          exact ⟨T373, ⟨_, N373, X373, e373⟩, fun _ hr => by rw [if_neg (not_or.mpr ⟨hc372, hc374⟩)] at hr; exact hr⟩
    refine Gl.go st371 ?_
    show Gl p.tables e below _ (T371.setTop (mkF m 494 #[.val (.ref x), sJ cn, sS, sJ 1, sS, sJ 0, sS, sJ pt, sS, sJ (fMag cn), sS, sJ 0, sS, sJ 0, sS, sJ (fMag cn), sS, sJ 0, sS, sJ 0, sS, sI 0, sI 0, sJ 0, sS, sJ (fMag cn), sS, sJ 0, sS, sJ 0, sS, sJ 0, sS, sJ (-(fMag cn)), sS, sJ (-1), sS, sJ (-1), sS, sJ (l0 + (0 : Int64)), sS, sJ 0, sS, sJ (l1 + (-(fMag cn))), sS, sJ ((l1 + (-(fMag cn))) + (0 : Int64)), sS, sU, sU, sU, sU, sU, sU, sU, sU, sU, sU] [(.long (if cu (l1 + (-(fMag cn))) l1 < 0 ∨ cu ((l1 + (-(fMag cn))) + (0 : Int64)) (l1 + (-(fMag cn))) < 0 then (1 : Int64) else 0))]))
    obtain ⟨k375, hq_k375⟩ : ∃ q, q = (if cu (l1 + (-(fMag cn))) l1 < 0 ∨ cu ((l1 + (-(fMag cn))) + (0 : Int64)) (l1 + (-(fMag cn))) < 0 then (1 : Int64) else 0) := ⟨_, rfl⟩
    rw [← hq_k375]
    have hq_k375_ : k375 = 0 ∨ k375 = 1 := by rw [hq_k375]; exact own_k01
    show Gl p.tables e below _ (T371.setTop (mkF m 494 #[.val (.ref x), sJ cn, sS, sJ 1, sS, sJ 0, sS, sJ pt, sS, sJ (fMag cn), sS, sJ 0, sS, sJ 0, sS, sJ (fMag cn), sS, sJ 0, sS, sJ 0, sS, sI 0, sI 0, sJ 0, sS, sJ (fMag cn), sS, sJ 0, sS, sJ 0, sS, sJ 0, sS, sJ (-(fMag cn)), sS, sJ (-1), sS, sJ (-1), sS, sJ (l0 + (0 : Int64)), sS, sJ 0, sS, sJ (l1 + (-(fMag cn))), sS, sJ ((l1 + (-(fMag cn))) + (0 : Int64)), sS, sU, sU, sU, sU, sU, sU, sU, sU, sU, sU] [(.long k375)]))
    refine Gl.go (fun _ hr => zXT_lstore X371.here hx rfl (hb hby d3_494) rfl (l' := #[.val (.ref x), sJ cn, sS, sJ 1, sS, sJ 0, sS, sJ pt, sS, sJ (fMag cn), sS, sJ 0, sS, sJ 0, sS, sJ (fMag cn), sS, sJ 0, sS, sJ 0, sS, sI 0, sI 0, sJ 0, sS, sJ (fMag cn), sS, sJ 0, sS, sJ 0, sS, sJ 0, sS, sJ (-(fMag cn)), sS, sJ (-1), sS, sJ (-1), sS, sJ (l0 + (0 : Int64)), sS, sJ 0, sS, sJ (l1 + (-(fMag cn))), sS, sJ ((l1 + (-(fMag cn))) + (0 : Int64)), sS, sJ k375, sS, sU, sU, sU, sU, sU, sU, sU, sU]) rfl (zXS_aloadN X371.here hx rfl (hb hby d3_496) rfl rfl hr)) ?_
    refine gGetF (host := "") Gl.cl X371 hx hZ hown (Or.inl (hw _ (List.mem_of_getElem? (i := 31) rfl))) Via.refl e371 q5 rfl rfl (hb hby d3_497) ?_
    intro T376 X376 e376
    refine Gl.go (fun _ hr => zXT_lload X376.here hx rfl (hb hby d3_500) rfl (zXT_ladd X376.here hx rfl (hb hby d3_502) rfl (zXT_lstore X376.here hx rfl (hb hby d3_503) rfl (l' := #[.val (.ref x), sJ cn, sS, sJ 1, sS, sJ 0, sS, sJ pt, sS, sJ (fMag cn), sS, sJ 0, sS, sJ 0, sS, sJ (fMag cn), sS, sJ 0, sS, sJ 0, sS, sI 0, sI 0, sJ 0, sS, sJ (fMag cn), sS, sJ 0, sS, sJ 0, sS, sJ 0, sS, sJ (-(fMag cn)), sS, sJ (-1), sS, sJ (-1), sS, sJ (l0 + (0 : Int64)), sS, sJ 0, sS, sJ (l1 + (-(fMag cn))), sS, sJ ((l1 + (-(fMag cn))) + (0 : Int64)), sS, sJ k375, sS, sJ (l2 + (-1 : Int64)), sS, sU, sU, sU, sU, sU, sU]) rfl (zXT_lload X376.here hx rfl (hb hby d3_505) rfl (zXT_lload X376.here hx rfl (hb hby d3_507) rfl (zXT_ladd X376.here hx rfl (hb hby d3_509) rfl (zXT_lstore X376.here hx rfl (hb hby d3_510) rfl (l' := #[.val (.ref x), sJ cn, sS, sJ 1, sS, sJ 0, sS, sJ pt, sS, sJ (fMag cn), sS, sJ 0, sS, sJ 0, sS, sJ (fMag cn), sS, sJ 0, sS, sJ 0, sS, sI 0, sI 0, sJ 0, sS, sJ (fMag cn), sS, sJ 0, sS, sJ 0, sS, sJ 0, sS, sJ (-(fMag cn)), sS, sJ (-1), sS, sJ (-1), sS, sJ (l0 + (0 : Int64)), sS, sJ 0, sS, sJ (l1 + (-(fMag cn))), sS, sJ ((l1 + (-(fMag cn))) + (0 : Int64)), sS, sJ k375, sS, sJ (l2 + (-1 : Int64)), sS, sJ ((l2 + (-1 : Int64)) + k375), sS, sU, sU, sU, sU]) rfl (zXT_lload X376.here hx rfl (hb hby d3_512) rfl (zXS_aloadN X376.here hx rfl (hb hby d3_514) rfl rfl hr))))))))) ?_
    refine gGetF (host := "") Gl.cl X376 hx hZ hown (Or.inl (hw _ (List.mem_of_getElem? (i := 31) rfl))) Via.refl e376 q5 rfl rfl (hb hby d3_515) ?_
    intro T377 X377 e377
    have zz378 : n0 ≤ h0.size := by omega
    refine gStaticN Gl.cl (y := (⟨"java/lang/Long", "compareUnsigned", "(JJ)I"⟩ : MethodName)) (argsL := [(.long (l2 + (-1 : Int64))), (.long l2)]) (rest := []) (mc := 0) (ms := 0) X377 hx hZ hown (mvT hZ (hw _ (List.mem_of_getElem? (i := 46) rfl))) (mvT hZ (hw _ (List.mem_of_getElem? (i := 47) rfl))) (mvT hZ (hw _ (List.mem_of_getElem? (i := 48) rfl))) (mvT hZ (hw _ (List.mem_of_getElem? (i := 49) rfl))) (by decide) (backOf (W := 0) (cum l Z a0 hw [] (l2 + (-1 : Int64)) l2 h0 n0 zz378 ) hZ (hw _ (List.mem_of_getElem? (i := 49) rfl)) (hw _ (List.mem_of_getElem? (i := 48) rfl)) (by decide) (by decide)) rfl (by rw [hml]; rfl) (lenOf pd_1 rfl) rfl (by show 2 * 0 + _ ≤ _; exact Nat.le_of_eq rfl) (hb hby d3_518) rfl e377 (by decide) (by decide) ?_
    intro v378 T378 Lc378 hQ378 X378
    obtain ⟨rfl, Nq378, e378⟩ := hQ378
    have N378 := Fr.app N371 Nq378
    obtain ⟨T379, ⟨lc379, N379, X379, e379⟩, st379⟩ : Sg (fun U => ∃ lc, Fr n0 lc ∧ Stand p l e ({ frames := 2, cells := 0, slots := 0, locals := 50 } : Room) s m #[(.ref x), (.long cn), (.long (1 : Int64)), (.long (0 : Int64)), (.long pt)] below meth c U lc 0 0 ∧ U.heap = h0) (mkF m 539 #[.val (.ref x), sJ cn, sS, sJ 1, sS, sJ 0, sS, sJ pt, sS, sJ (fMag cn), sS, sJ 0, sS, sJ 0, sS, sJ (fMag cn), sS, sJ 0, sS, sJ 0, sS, sI 0, sI 0, sJ 0, sS, sJ (fMag cn), sS, sJ 0, sS, sJ 0, sS, sJ 0, sS, sJ (-(fMag cn)), sS, sJ (-1), sS, sJ (-1), sS, sJ (l0 + (0 : Int64)), sS, sJ 0, sS, sJ (l1 + (-(fMag cn))), sS, sJ ((l1 + (-(fMag cn))) + (0 : Int64)), sS, sJ k375, sS, sJ (l2 + (-1 : Int64)), sS, sJ ((l2 + (-1 : Int64)) + k375), sS, sU, sU, sU, sU] [(.long (if cu (l2 + (-1 : Int64)) l2 < 0 ∨ cu ((l2 + (-1 : Int64)) + k375) (l2 + (-1 : Int64)) < 0 then (1 : Int64) else 0))]) p.tables e below (T378.setTop (mkF m 521 #[.val (.ref x), sJ cn, sS, sJ 1, sS, sJ 0, sS, sJ pt, sS, sJ (fMag cn), sS, sJ 0, sS, sJ 0, sS, sJ (fMag cn), sS, sJ 0, sS, sJ 0, sS, sI 0, sI 0, sJ 0, sS, sJ (fMag cn), sS, sJ 0, sS, sJ 0, sS, sJ 0, sS, sJ (-(fMag cn)), sS, sJ (-1), sS, sJ (-1), sS, sJ (l0 + (0 : Int64)), sS, sJ 0, sS, sJ (l1 + (-(fMag cn))), sS, sJ ((l1 + (-(fMag cn))) + (0 : Int64)), sS, sJ k375, sS, sJ (l2 + (-1 : Int64)), sS, sJ ((l2 + (-1 : Int64)) + k375), sS, sU, sU, sU, sU] [(.int (cu (l2 + (-1 : Int64)) l2))])) := by
      by_cases hc380 : (cu (l2 + (-1 : Int64)) l2) < (0 : Int32)
      · refine Sg.go (fun _ hr => zXS_ifYes X378.here hx rfl (pc0 := 521) (pc' := 534) rfl (hb hby d3_521) rfl (XT.i0_lt_t hc380) (by decide) (by decide) (zXT_lconst X378.here hx rfl (hb hby d3_534) (zXS_goto X378.here hx rfl (pc0 := 535) (pc' := 539) rfl (hb hby d3_535) (by decide) (by decide) hr))) ?_
        show Sg _ _ p.tables e below (T378.setTop (mkF m 539 #[.val (.ref x), sJ cn, sS, sJ 1, sS, sJ 0, sS, sJ pt, sS, sJ (fMag cn), sS, sJ 0, sS, sJ 0, sS, sJ (fMag cn), sS, sJ 0, sS, sJ 0, sS, sI 0, sI 0, sJ 0, sS, sJ (fMag cn), sS, sJ 0, sS, sJ 0, sS, sJ 0, sS, sJ (-(fMag cn)), sS, sJ (-1), sS, sJ (-1), sS, sJ (l0 + (0 : Int64)), sS, sJ 0, sS, sJ (l1 + (-(fMag cn))), sS, sJ ((l1 + (-(fMag cn))) + (0 : Int64)), sS, sJ k375, sS, sJ (l2 + (-1 : Int64)), sS, sJ ((l2 + (-1 : Int64)) + k375), sS, sU, sU, sU, sU] [(.long (1 : Int64))]))
        exact ⟨T378, ⟨_, N378, X378, e378⟩, fun _ hr => by rw [if_pos (Or.inl hc380)] at hr; exact hr⟩
      · refine Sg.go (fun _ hr => zXS_ifNo X378.here hx rfl (hb hby d3_521) rfl (XT.i0_lt_f hc380) (zXT_lload X378.here hx rfl (hb hby d3_524) rfl (zXT_lload X378.here hx rfl (hb hby d3_526) rfl hr))) ?_
        have zz381 : n0 ≤ h0.size := by omega
        refine gStaticN Sg.cl (y := (⟨"java/lang/Long", "compareUnsigned", "(JJ)I"⟩ : MethodName)) (argsL := [(.long ((l2 + (-1 : Int64)) + k375)), (.long (l2 + (-1 : Int64)))]) (rest := []) (mc := 0) (ms := 0) X378 hx hZ hown (mvT hZ (hw _ (List.mem_of_getElem? (i := 46) rfl))) (mvT hZ (hw _ (List.mem_of_getElem? (i := 47) rfl))) (mvT hZ (hw _ (List.mem_of_getElem? (i := 48) rfl))) (mvT hZ (hw _ (List.mem_of_getElem? (i := 49) rfl))) (by decide) (backOf (W := 0) (cum l Z a0 hw [] ((l2 + (-1 : Int64)) + k375) (l2 + (-1 : Int64)) h0 n0 zz381 ) hZ (hw _ (List.mem_of_getElem? (i := 49) rfl)) (hw _ (List.mem_of_getElem? (i := 48) rfl)) (by decide) (by decide)) rfl (by rw [hml]; rfl) (lenOf pd_1 rfl) rfl (by show 2 * 0 + _ ≤ _; exact Nat.le_of_eq rfl) (hb hby d3_528) rfl e378 (by decide) (by decide) ?_
        intro v381 T381 Lc381 hQ381 X381
        obtain ⟨rfl, Nq381, e381⟩ := hQ381
        have N381 := Fr.app N378 Nq381
        by_cases hc382 : (cu ((l2 + (-1 : Int64)) + k375) (l2 + (-1 : Int64))) < (0 : Int32)
        · refine Sg.go (fun _ hr => zXS_ifNo X381.here hx rfl (hb hby d3_531) rfl (XT.i0_ge_f hc382) (zXT_lconst X381.here hx rfl (hb hby d3_534) (zXS_goto X381.here hx rfl (pc0 := 535) (pc' := 539) rfl (hb hby d3_535) (by decide) (by decide) hr))) ?_
          show Sg _ _ p.tables e below (T381.setTop (mkF m 539 #[.val (.ref x), sJ cn, sS, sJ 1, sS, sJ 0, sS, sJ pt, sS, sJ (fMag cn), sS, sJ 0, sS, sJ 0, sS, sJ (fMag cn), sS, sJ 0, sS, sJ 0, sS, sI 0, sI 0, sJ 0, sS, sJ (fMag cn), sS, sJ 0, sS, sJ 0, sS, sJ 0, sS, sJ (-(fMag cn)), sS, sJ (-1), sS, sJ (-1), sS, sJ (l0 + (0 : Int64)), sS, sJ 0, sS, sJ (l1 + (-(fMag cn))), sS, sJ ((l1 + (-(fMag cn))) + (0 : Int64)), sS, sJ k375, sS, sJ (l2 + (-1 : Int64)), sS, sJ ((l2 + (-1 : Int64)) + k375), sS, sU, sU, sU, sU] [(.long (1 : Int64))]))
          exact ⟨T381, ⟨_, N381, X381, e381⟩, fun _ hr => by rw [if_pos (Or.inr hc382)] at hr; exact hr⟩
        · refine Sg.go (fun _ hr => zXS_ifYes X381.here hx rfl (pc0 := 531) (pc' := 538) rfl (hb hby d3_531) rfl (XT.i0_ge_t hc382) (by decide) (by decide) (zXT_lconst X381.here hx rfl (hb hby d3_538) hr)) ?_
          show Sg _ _ p.tables e below (T381.setTop (mkF m 539 #[.val (.ref x), sJ cn, sS, sJ 1, sS, sJ 0, sS, sJ pt, sS, sJ (fMag cn), sS, sJ 0, sS, sJ 0, sS, sJ (fMag cn), sS, sJ 0, sS, sJ 0, sS, sI 0, sI 0, sJ 0, sS, sJ (fMag cn), sS, sJ 0, sS, sJ 0, sS, sJ 0, sS, sJ (-(fMag cn)), sS, sJ (-1), sS, sJ (-1), sS, sJ (l0 + (0 : Int64)), sS, sJ 0, sS, sJ (l1 + (-(fMag cn))), sS, sJ ((l1 + (-(fMag cn))) + (0 : Int64)), sS, sJ k375, sS, sJ (l2 + (-1 : Int64)), sS, sJ ((l2 + (-1 : Int64)) + k375), sS, sU, sU, sU, sU] [(.long (0 : Int64))]))
          exact ⟨T381, ⟨_, N381, X381, e381⟩, fun _ hr => by rw [if_neg (not_or.mpr ⟨hc380, hc382⟩)] at hr; exact hr⟩
    refine Gl.go st379 ?_
    show Gl p.tables e below _ (T379.setTop (mkF m 539 #[.val (.ref x), sJ cn, sS, sJ 1, sS, sJ 0, sS, sJ pt, sS, sJ (fMag cn), sS, sJ 0, sS, sJ 0, sS, sJ (fMag cn), sS, sJ 0, sS, sJ 0, sS, sI 0, sI 0, sJ 0, sS, sJ (fMag cn), sS, sJ 0, sS, sJ 0, sS, sJ 0, sS, sJ (-(fMag cn)), sS, sJ (-1), sS, sJ (-1), sS, sJ (l0 + (0 : Int64)), sS, sJ 0, sS, sJ (l1 + (-(fMag cn))), sS, sJ ((l1 + (-(fMag cn))) + (0 : Int64)), sS, sJ k375, sS, sJ (l2 + (-1 : Int64)), sS, sJ ((l2 + (-1 : Int64)) + k375), sS, sU, sU, sU, sU] [(.long (if cu (l2 + (-1 : Int64)) l2 < 0 ∨ cu ((l2 + (-1 : Int64)) + k375) (l2 + (-1 : Int64)) < 0 then (1 : Int64) else 0))]))
    obtain ⟨k383, hq_k383⟩ : ∃ q, q = (if cu (l2 + (-1 : Int64)) l2 < 0 ∨ cu ((l2 + (-1 : Int64)) + k375) (l2 + (-1 : Int64)) < 0 then (1 : Int64) else 0) := ⟨_, rfl⟩
    rw [← hq_k383]
    have hq_k383_ : k383 = 0 ∨ k383 = 1 := by rw [hq_k383]; exact own_k01
    show Gl p.tables e below _ (T379.setTop (mkF m 539 #[.val (.ref x), sJ cn, sS, sJ 1, sS, sJ 0, sS, sJ pt, sS, sJ (fMag cn), sS, sJ 0, sS, sJ 0, sS, sJ (fMag cn), sS, sJ 0, sS, sJ 0, sS, sI 0, sI 0, sJ 0, sS, sJ (fMag cn), sS, sJ 0, sS, sJ 0, sS, sJ 0, sS, sJ (-(fMag cn)), sS, sJ (-1), sS, sJ (-1), sS, sJ (l0 + (0 : Int64)), sS, sJ 0, sS, sJ (l1 + (-(fMag cn))), sS, sJ ((l1 + (-(fMag cn))) + (0 : Int64)), sS, sJ k375, sS, sJ (l2 + (-1 : Int64)), sS, sJ ((l2 + (-1 : Int64)) + k375), sS, sU, sU, sU, sU] [(.long k383)]))
    refine Gl.go (fun _ hr => zXT_lstore X379.here hx rfl (hb hby d3_539) rfl (l' := #[.val (.ref x), sJ cn, sS, sJ 1, sS, sJ 0, sS, sJ pt, sS, sJ (fMag cn), sS, sJ 0, sS, sJ 0, sS, sJ (fMag cn), sS, sJ 0, sS, sJ 0, sS, sI 0, sI 0, sJ 0, sS, sJ (fMag cn), sS, sJ 0, sS, sJ 0, sS, sJ 0, sS, sJ (-(fMag cn)), sS, sJ (-1), sS, sJ (-1), sS, sJ (l0 + (0 : Int64)), sS, sJ 0, sS, sJ (l1 + (-(fMag cn))), sS, sJ ((l1 + (-(fMag cn))) + (0 : Int64)), sS, sJ k375, sS, sJ (l2 + (-1 : Int64)), sS, sJ ((l2 + (-1 : Int64)) + k375), sS, sJ k383, sS, sU, sU]) rfl (zXS_aloadN X379.here hx rfl (hb hby d3_541) rfl rfl hr)) ?_
    refine gGetF (host := "") Gl.cl X379 hx hZ hown (Or.inl (hw _ (List.mem_of_getElem? (i := 33) rfl))) Via.refl e379 q6 rfl rfl (hb hby d3_542) ?_
    intro T384 X384 e384
    refine Gl.go (fun _ hr => zXT_lload X384.here hx rfl (hb hby d3_545) rfl (zXT_ladd X384.here hx rfl (hb hby d3_547) rfl (zXT_lload X384.here hx rfl (hb hby d3_548) rfl (zXT_ladd X384.here hx rfl (hb hby d3_550) rfl (zXT_lstore X384.here hx rfl (hb hby d3_551) rfl (l' := #[.val (.ref x), sJ cn, sS, sJ 1, sS, sJ 0, sS, sJ pt, sS, sJ (fMag cn), sS, sJ 0, sS, sJ 0, sS, sJ (fMag cn), sS, sJ 0, sS, sJ 0, sS, sI 0, sI 0, sJ 0, sS, sJ (fMag cn), sS, sJ 0, sS, sJ 0, sS, sJ 0, sS, sJ (-(fMag cn)), sS, sJ (-1), sS, sJ (-1), sS, sJ (l0 + (0 : Int64)), sS, sJ 0, sS, sJ (l1 + (-(fMag cn))), sS, sJ ((l1 + (-(fMag cn))) + (0 : Int64)), sS, sJ k375, sS, sJ (l2 + (-1 : Int64)), sS, sJ ((l2 + (-1 : Int64)) + k375), sS, sJ k383, sS, sJ ((l3 + (-1 : Int64)) + k383), sS]) rfl (zXS_aloadN X384.here hx rfl (hb hby d3_553) rfl rfl hr)))))) ?_
    refine gGetF (host := "") Gl.cl X384 hx hZ hown (Or.inl (hw _ (List.mem_of_getElem? (i := 33) rfl))) Via.refl e384 q6 rfl rfl (hb hby d3_554) ?_
    intro T385 X385 e385
    refine Gl.go (fun _ hr => zXT_lload X385.here hx rfl (hb hby d3_557) rfl (zXT_lxor X385.here hx rfl (hb hby d3_559) rfl (zXT_lload X385.here hx rfl (hb hby d3_560) rfl (zXT_lload X385.here hx rfl (hb hby d3_562) rfl (zXT_lxor X385.here hx rfl (hb hby d3_564) rfl (zXT_land X385.here hx rfl (hb hby d3_565) rfl (zXT_lconst X385.here hx rfl (hb hby d3_566) (zXT_lcmp X385.here hx rfl (hb hby d3_567) rfl hr)))))))) ?_
    refine Gl.go (fun _ hr => zXS_ifYes X385.here hx rfl (pc0 := 568) (pc' := 581) rfl (hb hby d3_568) rfl (XT.ll_ge_t (own_ov hl3 hq_k383_ (Or.inr rfl))) (by decide) (by decide) (zXS_aloadN X385.here hx rfl (hb hby d3_581) rfl rfl (zXT_lload X385.here hx rfl (hb hby d3_582) rfl hr))) ?_
    refine gPutF (host := "") Gl.cl X385 hx hZ hown (Or.inl (hw _ (List.mem_of_getElem? (i := 27) rfl))) Via.refl e385 q3 q0 (Or.inl (hw _ (List.mem_of_getElem? (i := 28) rfl))) (hw _ (List.mem_of_getElem? (i := 5) rfl)) (ty := .long) (by decide) rfl rfl rfl rfl (hb hby d3_584) ?_
    intro T386 h386 X386 e386 W386
    have z387 : h0.size ≤ h386.size := (Keep.of_wr W386).1
    have Fw386 := q3.same W386
    have N386 := Fr.snoc X386 N379 (own_ale (by omega))
    refine Gl.go (fun _ hr => zXS_aloadN X386.here hx rfl (hb hby d3_587) rfl rfl (zXT_lload X386.here hx rfl (hb hby d3_588) rfl hr)) ?_
    have Fc388 := (q4.other W386 (Or.inr (slot_ne (Or.inl (hw _ (List.mem_of_getElem? (i := 30) rfl))) (Or.inl (hw _ (List.mem_of_getElem? (i := 28) rfl))) (by decide) (t := .long) (t' := .long) (by decide) (by decide))))
    have Ec389 := (q0.wr W386)
    refine gPutF (host := "") Gl.cl X386 hx hZ hown (Or.inl (hw _ (List.mem_of_getElem? (i := 29) rfl))) Via.refl e386 Fc388 Ec389 (Or.inl (hw _ (List.mem_of_getElem? (i := 30) rfl))) (hw _ (List.mem_of_getElem? (i := 5) rfl)) (ty := .long) (by decide) rfl rfl rfl rfl (hb hby d3_590) ?_
    intro T390 h390 X390 e390 W390
    have z391 : h386.size ≤ h390.size := (Keep.of_wr W390).1
    have Fw390 := Fc388.same W390
    have N390 := Fr.snoc X390 N386 (own_ale (by omega))
    refine Gl.go (fun _ hr => zXS_aloadN X390.here hx rfl (hb hby d3_593) rfl rfl (zXT_lload X390.here hx rfl (hb hby d3_594) rfl hr)) ?_
    have Fc392 := ((q5.other W386 (Or.inr (slot_ne (Or.inl (hw _ (List.mem_of_getElem? (i := 32) rfl))) (Or.inl (hw _ (List.mem_of_getElem? (i := 28) rfl))) (by decide) (t := .long) (t' := .long) (by decide) (by decide)))).other W390 (Or.inr (slot_ne (Or.inl (hw _ (List.mem_of_getElem? (i := 32) rfl))) (Or.inl (hw _ (List.mem_of_getElem? (i := 30) rfl))) (by decide) (t := .long) (t' := .long) (by decide) (by decide))))
    have Ec393 := (Ec389.wr W390)
    refine gPutF (host := "") Gl.cl X390 hx hZ hown (Or.inl (hw _ (List.mem_of_getElem? (i := 31) rfl))) Via.refl e390 Fc392 Ec393 (Or.inl (hw _ (List.mem_of_getElem? (i := 32) rfl))) (hw _ (List.mem_of_getElem? (i := 5) rfl)) (ty := .long) (by decide) rfl rfl rfl rfl (hb hby d3_596) ?_
    intro T394 h394 X394 e394 W394
    have z395 : h390.size ≤ h394.size := (Keep.of_wr W394).1
    have Fw394 := Fc392.same W394
    have N394 := Fr.snoc X394 N390 (own_ale (by omega))
    refine Gl.go (fun _ hr => zXS_aloadN X394.here hx rfl (hb hby d3_599) rfl rfl (zXT_lload X394.here hx rfl (hb hby d3_600) rfl hr)) ?_
    have Fc396 := (((q6.other W386 (Or.inr (slot_ne (Or.inl (hw _ (List.mem_of_getElem? (i := 34) rfl))) (Or.inl (hw _ (List.mem_of_getElem? (i := 28) rfl))) (by decide) (t := .long) (t' := .long) (by decide) (by decide)))).other W390 (Or.inr (slot_ne (Or.inl (hw _ (List.mem_of_getElem? (i := 34) rfl))) (Or.inl (hw _ (List.mem_of_getElem? (i := 30) rfl))) (by decide) (t := .long) (t' := .long) (by decide) (by decide)))).other W394 (Or.inr (slot_ne (Or.inl (hw _ (List.mem_of_getElem? (i := 34) rfl))) (Or.inl (hw _ (List.mem_of_getElem? (i := 32) rfl))) (by decide) (t := .long) (t' := .long) (by decide) (by decide))))
    have Ec397 := (Ec393.wr W394)
    refine gPutF (host := "") Gl.cl X394 hx hZ hown (Or.inl (hw _ (List.mem_of_getElem? (i := 33) rfl))) Via.refl e394 Fc396 Ec397 (Or.inl (hw _ (List.mem_of_getElem? (i := 34) rfl))) (hw _ (List.mem_of_getElem? (i := 5) rfl)) (ty := .long) (by decide) rfl rfl rfl rfl (hb hby d3_602) ?_
    intro T398 h398 X398 e398 W398
    have z399 : h394.size ≤ h398.size := (Keep.of_wr W398).1
    have Fw398 := Fc396.same W398
    have N398 := Fr.snoc X398 N394 (own_ale (by omega))
    refine Gl.go (fun _ hr => zXS_aloadN X398.here hx rfl (hb hby d3_605) rfl rfl (zXS_iconst X398.here hx rfl (hb hby d3_606) hr)) ?_
    have Fc400 := ((((q7.other W386 (Or.inr (slot_ne (Or.inl (hw _ (List.mem_of_getElem? (i := 66) rfl))) (Or.inl (hw _ (List.mem_of_getElem? (i := 28) rfl))) (by decide) (t := .boolean) (t' := .long) (by decide) (by decide)))).other W390 (Or.inr (slot_ne (Or.inl (hw _ (List.mem_of_getElem? (i := 66) rfl))) (Or.inl (hw _ (List.mem_of_getElem? (i := 30) rfl))) (by decide) (t := .boolean) (t' := .long) (by decide) (by decide)))).other W394 (Or.inr (slot_ne (Or.inl (hw _ (List.mem_of_getElem? (i := 66) rfl))) (Or.inl (hw _ (List.mem_of_getElem? (i := 32) rfl))) (by decide) (t := .boolean) (t' := .long) (by decide) (by decide)))).other W398 (Or.inr (slot_ne (Or.inl (hw _ (List.mem_of_getElem? (i := 66) rfl))) (Or.inl (hw _ (List.mem_of_getElem? (i := 34) rfl))) (by decide) (t := .boolean) (t' := .long) (by decide) (by decide))))
    have Ec401 := (Ec397.wr W398)
    refine gPutF (host := "") Gl.cl X398 hx hZ hown (Or.inl (hw _ (List.mem_of_getElem? (i := 65) rfl))) Via.refl e398 Fc400 Ec401 (Or.inl (hw _ (List.mem_of_getElem? (i := 66) rfl))) (hw _ (List.mem_of_getElem? (i := 5) rfl)) (ty := .boolean) (by decide) rfl rfl rfl rfl (hb hby d3_607) ?_
    intro T402 h402 X402 e402 W402
    have z403 : h398.size ≤ h402.size := (Keep.of_wr W402).1
    have Fw402 := Fc400.same W402
    have N402 := Fr.snoc X402 N398 (own_ale (by omega))
    have Ec404 := (Ec401.wr W402)
    have Fc405 := (((((q2.other W386 (Or.inr (slot_ne (Or.inl (hw _ (List.mem_of_getElem? (i := 15) rfl))) (Or.inl (hw _ (List.mem_of_getElem? (i := 28) rfl))) (by decide) (t := .long) (t' := .long) (by decide) (by decide)))).other W390 (Or.inr (slot_ne (Or.inl (hw _ (List.mem_of_getElem? (i := 15) rfl))) (Or.inl (hw _ (List.mem_of_getElem? (i := 30) rfl))) (by decide) (t := .long) (t' := .long) (by decide) (by decide)))).other W394 (Or.inr (slot_ne (Or.inl (hw _ (List.mem_of_getElem? (i := 15) rfl))) (Or.inl (hw _ (List.mem_of_getElem? (i := 32) rfl))) (by decide) (t := .long) (t' := .long) (by decide) (by decide)))).other W398 (Or.inr (slot_ne (Or.inl (hw _ (List.mem_of_getElem? (i := 15) rfl))) (Or.inl (hw _ (List.mem_of_getElem? (i := 34) rfl))) (by decide) (t := .long) (t' := .long) (by decide) (by decide)))).other W402 (Or.inr (slot_ne (Or.inl (hw _ (List.mem_of_getElem? (i := 15) rfl))) (Or.inl (hw _ (List.mem_of_getElem? (i := 66) rfl))) (by decide) (t := .long) (t' := .boolean) (by decide) (by decide))))
    have Fc406 := ((((Fw386.other W390 (Or.inr (slot_ne (Or.inl (hw _ (List.mem_of_getElem? (i := 28) rfl))) (Or.inl (hw _ (List.mem_of_getElem? (i := 30) rfl))) (by decide) (t := .long) (t' := .long) (by decide) (by decide)))).other W394 (Or.inr (slot_ne (Or.inl (hw _ (List.mem_of_getElem? (i := 28) rfl))) (Or.inl (hw _ (List.mem_of_getElem? (i := 32) rfl))) (by decide) (t := .long) (t' := .long) (by decide) (by decide)))).other W398 (Or.inr (slot_ne (Or.inl (hw _ (List.mem_of_getElem? (i := 28) rfl))) (Or.inl (hw _ (List.mem_of_getElem? (i := 34) rfl))) (by decide) (t := .long) (t' := .long) (by decide) (by decide)))).other W402 (Or.inr (slot_ne (Or.inl (hw _ (List.mem_of_getElem? (i := 28) rfl))) (Or.inl (hw _ (List.mem_of_getElem? (i := 66) rfl))) (by decide) (t := .long) (t' := .boolean) (by decide) (by decide))))
    have Fc407 := (((Fw390.other W394 (Or.inr (slot_ne (Or.inl (hw _ (List.mem_of_getElem? (i := 30) rfl))) (Or.inl (hw _ (List.mem_of_getElem? (i := 32) rfl))) (by decide) (t := .long) (t' := .long) (by decide) (by decide)))).other W398 (Or.inr (slot_ne (Or.inl (hw _ (List.mem_of_getElem? (i := 30) rfl))) (Or.inl (hw _ (List.mem_of_getElem? (i := 34) rfl))) (by decide) (t := .long) (t' := .long) (by decide) (by decide)))).other W402 (Or.inr (slot_ne (Or.inl (hw _ (List.mem_of_getElem? (i := 30) rfl))) (Or.inl (hw _ (List.mem_of_getElem? (i := 66) rfl))) (by decide) (t := .long) (t' := .boolean) (by decide) (by decide))))
    have Fc408 := ((Fw394.other W398 (Or.inr (slot_ne (Or.inl (hw _ (List.mem_of_getElem? (i := 32) rfl))) (Or.inl (hw _ (List.mem_of_getElem? (i := 34) rfl))) (by decide) (t := .long) (t' := .long) (by decide) (by decide)))).other W402 (Or.inr (slot_ne (Or.inl (hw _ (List.mem_of_getElem? (i := 32) rfl))) (Or.inl (hw _ (List.mem_of_getElem? (i := 66) rfl))) (by decide) (t := .long) (t' := .boolean) (by decide) (by decide))))
    have Fc409 := (Fw398.other W402 (Or.inr (slot_ne (Or.inl (hw _ (List.mem_of_getElem? (i := 34) rfl))) (Or.inl (hw _ (List.mem_of_getElem? (i := 66) rfl))) (by decide) (t := .long) (t' := .boolean) (by decide) (by decide))))
    obtain ⟨fs, hr, hrun, hended, hW, hsame⟩ := X402.leave (v := none) (fun _ => rfl)
    refine ⟨_, _, X402.returnOut hx Bd.returns (hb hby d3_610) hr, hrun, hended, _, _, rfl, ?_, ⟨⟨_, rfl⟩, hW, hsame.mono (by decide) (by decide)⟩⟩
    show QaddB1 Z x cn pt l0 l1 l2 l3 h0 n0 _ T402.heap _
    rw [e402]
    exact ⟨(l0 + (0 : Int64)), ((l1 + (-(fMag cn))) + (0 : Int64)), ((l2 + (-1 : Int64)) + k375), ((l3 + (-1 : Int64)) + k383), rfl, N402, ((((((Keep.refl h0 [x]).wr W386 (Or.inl (by simp))).wr W390 (Or.inl (by simp))).wr W394 (Or.inl (by simp))).wr W398 (Or.inl (by simp))).wr W402 (Or.inl (by simp))), Ec404, Fc405, Fc406, Fc407, Fc408, Fc409, Fw402, (own_add_ne0 hneg)⟩
  · refine Gl.go (fun _ hr => zXS_ifYes X363.here hx rfl (pc0 := 321) (pc' := 423) rfl (hb hby d3_321) rfl (XT.ll_ge_t hc364) (by decide) (by decide) (zXS_aloadN X363.here hx rfl (hb hby d3_423) rfl rfl hr)) ?_
    refine gGetF (host := "") Gl.cl X363 hx hZ hown (Or.inl (hw _ (List.mem_of_getElem? (i := 27) rfl))) Via.refl e363 q3 rfl rfl (hb hby d3_424) ?_
    intro T410 X410 e410
    refine Gl.go (fun _ hr => zXT_lload X410.here hx rfl (hb hby d3_427) rfl (zXT_ladd X410.here hx rfl (hb hby d3_429) rfl (zXT_lstore X410.here hx rfl (hb hby d3_430) rfl (l' := #[.val (.ref x), sJ cn, sS, sJ 1, sS, sJ 0, sS, sJ pt, sS, sJ (fMag cn), sS, sJ 0, sS, sJ 0, sS, sJ (fMag cn), sS, sJ 0, sS, sJ 0, sS, sI 0, sI 0, sJ 0, sS, sJ (fMag cn), sS, sJ 0, sS, sJ 0, sS, sJ 0, sS, sJ (fMag cn), sS, sJ 0, sS, sJ 0, sS, sJ (l0 + (0 : Int64)), sS, sU, sU, sU, sU, sU, sU, sU, sU, sU, sU, sU, sU, sU, sU, sU, sU]) rfl (zXT_lload X410.here hx rfl (hb hby d3_432) rfl (zXS_aloadN X410.here hx rfl (hb hby d3_434) rfl rfl hr))))) ?_
    refine gGetF (host := "") Gl.cl X410 hx hZ hown (Or.inl (hw _ (List.mem_of_getElem? (i := 27) rfl))) Via.refl e410 q3 rfl rfl (hb hby d3_435) ?_
    intro T411 X411 e411
    have zz412 : n0 ≤ h0.size := by omega
    refine gStaticN Gl.cl (y := (⟨"java/lang/Long", "compareUnsigned", "(JJ)I"⟩ : MethodName)) (argsL := [(.long (l0 + (0 : Int64))), (.long l0)]) (rest := []) (mc := 0) (ms := 0) X411 hx hZ hown (mvT hZ (hw _ (List.mem_of_getElem? (i := 46) rfl))) (mvT hZ (hw _ (List.mem_of_getElem? (i := 47) rfl))) (mvT hZ (hw _ (List.mem_of_getElem? (i := 48) rfl))) (mvT hZ (hw _ (List.mem_of_getElem? (i := 49) rfl))) (by decide) (backOf (W := 0) (cum l Z a0 hw [] (l0 + (0 : Int64)) l0 h0 n0 zz412 ) hZ (hw _ (List.mem_of_getElem? (i := 49) rfl)) (hw _ (List.mem_of_getElem? (i := 48) rfl)) (by decide) (by decide)) rfl (by rw [hml]; rfl) (lenOf pd_1 rfl) rfl (by show 2 * 0 + _ ≤ _; exact Nat.le_of_eq rfl) (hb hby d3_438) rfl e411 (by decide) (by decide) ?_
    intro v412 T412 Lc412 hQ412 X412
    obtain ⟨rfl, Nq412, e412⟩ := hQ412
    have N412 := Fr.app N363 Nq412
    refine Gl.go (fun _ hr => zXS_ifYes X412.here hx rfl (pc0 := 441) (pc' := 448) rfl (hb hby d3_441) rfl (XT.i0_ge_t (own_cuadd0 _)) (by decide) (by decide) (zXT_lconst X412.here hx rfl (hb hby d3_448) (zXT_lstore X412.here hx rfl (hb hby d3_449) rfl (l' := #[.val (.ref x), sJ cn, sS, sJ 1, sS, sJ 0, sS, sJ pt, sS, sJ (fMag cn), sS, sJ 0, sS, sJ 0, sS, sJ (fMag cn), sS, sJ 0, sS, sJ 0, sS, sI 0, sI 0, sJ 0, sS, sJ (fMag cn), sS, sJ 0, sS, sJ 0, sS, sJ 0, sS, sJ (fMag cn), sS, sJ 0, sS, sJ 0, sS, sJ (l0 + (0 : Int64)), sS, sJ 0, sS, sU, sU, sU, sU, sU, sU, sU, sU, sU, sU, sU, sU, sU, sU]) rfl (zXS_aloadN X412.here hx rfl (hb hby d3_451) rfl rfl hr)))) ?_
    refine gGetF (host := "") Gl.cl X412 hx hZ hown (Or.inl (hw _ (List.mem_of_getElem? (i := 29) rfl))) Via.refl e412 q4 rfl rfl (hb hby d3_452) ?_
    intro T413 X413 e413
    refine Gl.go (fun _ hr => zXT_lload X413.here hx rfl (hb hby d3_455) rfl (zXT_ladd X413.here hx rfl (hb hby d3_457) rfl (zXT_lstore X413.here hx rfl (hb hby d3_458) rfl (l' := #[.val (.ref x), sJ cn, sS, sJ 1, sS, sJ 0, sS, sJ pt, sS, sJ (fMag cn), sS, sJ 0, sS, sJ 0, sS, sJ (fMag cn), sS, sJ 0, sS, sJ 0, sS, sI 0, sI 0, sJ 0, sS, sJ (fMag cn), sS, sJ 0, sS, sJ 0, sS, sJ 0, sS, sJ (fMag cn), sS, sJ 0, sS, sJ 0, sS, sJ (l0 + (0 : Int64)), sS, sJ 0, sS, sJ (l1 + (fMag cn)), sS, sU, sU, sU, sU, sU, sU, sU, sU, sU, sU, sU, sU]) rfl (zXT_lload X413.here hx rfl (hb hby d3_460) rfl (zXT_lload X413.here hx rfl (hb hby d3_462) rfl (zXT_ladd X413.here hx rfl (hb hby d3_464) rfl (zXT_lstore X413.here hx rfl (hb hby d3_465) rfl (l' := #[.val (.ref x), sJ cn, sS, sJ 1, sS, sJ 0, sS, sJ pt, sS, sJ (fMag cn), sS, sJ 0, sS, sJ 0, sS, sJ (fMag cn), sS, sJ 0, sS, sJ 0, sS, sI 0, sI 0, sJ 0, sS, sJ (fMag cn), sS, sJ 0, sS, sJ 0, sS, sJ 0, sS, sJ (fMag cn), sS, sJ 0, sS, sJ 0, sS, sJ (l0 + (0 : Int64)), sS, sJ 0, sS, sJ (l1 + (fMag cn)), sS, sJ ((l1 + (fMag cn)) + (0 : Int64)), sS, sU, sU, sU, sU, sU, sU, sU, sU, sU, sU]) rfl (zXT_lload X413.here hx rfl (hb hby d3_467) rfl (zXS_aloadN X413.here hx rfl (hb hby d3_469) rfl rfl hr))))))))) ?_
    refine gGetF (host := "") Gl.cl X413 hx hZ hown (Or.inl (hw _ (List.mem_of_getElem? (i := 29) rfl))) Via.refl e413 q4 rfl rfl (hb hby d3_470) ?_
    intro T414 X414 e414
    have zz415 : n0 ≤ h0.size := by omega
    refine gStaticN Gl.cl (y := (⟨"java/lang/Long", "compareUnsigned", "(JJ)I"⟩ : MethodName)) (argsL := [(.long (l1 + (fMag cn))), (.long l1)]) (rest := []) (mc := 0) (ms := 0) X414 hx hZ hown (mvT hZ (hw _ (List.mem_of_getElem? (i := 46) rfl))) (mvT hZ (hw _ (List.mem_of_getElem? (i := 47) rfl))) (mvT hZ (hw _ (List.mem_of_getElem? (i := 48) rfl))) (mvT hZ (hw _ (List.mem_of_getElem? (i := 49) rfl))) (by decide) (backOf (W := 0) (cum l Z a0 hw [] (l1 + (fMag cn)) l1 h0 n0 zz415 ) hZ (hw _ (List.mem_of_getElem? (i := 49) rfl)) (hw _ (List.mem_of_getElem? (i := 48) rfl)) (by decide) (by decide)) rfl (by rw [hml]; rfl) (lenOf pd_1 rfl) rfl (by show 2 * 0 + _ ≤ _; exact Nat.le_of_eq rfl) (hb hby d3_473) rfl e414 (by decide) (by decide) ?_
    intro v415 T415 Lc415 hQ415 X415
    obtain ⟨rfl, Nq415, e415⟩ := hQ415
    have N415 := Fr.app N412 Nq415
    obtain ⟨T416, ⟨lc416, N416, X416, e416⟩, st416⟩ : Sg (fun U => ∃ lc, Fr n0 lc ∧ Stand p l e ({ frames := 2, cells := 0, slots := 0, locals := 50 } : Room) s m #[(.ref x), (.long cn), (.long (1 : Int64)), (.long (0 : Int64)), (.long pt)] below meth c U lc 0 0 ∧ U.heap = h0) (mkF m 494 #[.val (.ref x), sJ cn, sS, sJ 1, sS, sJ 0, sS, sJ pt, sS, sJ (fMag cn), sS, sJ 0, sS, sJ 0, sS, sJ (fMag cn), sS, sJ 0, sS, sJ 0, sS, sI 0, sI 0, sJ 0, sS, sJ (fMag cn), sS, sJ 0, sS, sJ 0, sS, sJ 0, sS, sJ (fMag cn), sS, sJ 0, sS, sJ 0, sS, sJ (l0 + (0 : Int64)), sS, sJ 0, sS, sJ (l1 + (fMag cn)), sS, sJ ((l1 + (fMag cn)) + (0 : Int64)), sS, sU, sU, sU, sU, sU, sU, sU, sU, sU, sU] [(.long (if cu (l1 + (fMag cn)) l1 < 0 ∨ cu ((l1 + (fMag cn)) + (0 : Int64)) (l1 + (fMag cn)) < 0 then (1 : Int64) else 0))]) p.tables e below (T415.setTop (mkF m 476 #[.val (.ref x), sJ cn, sS, sJ 1, sS, sJ 0, sS, sJ pt, sS, sJ (fMag cn), sS, sJ 0, sS, sJ 0, sS, sJ (fMag cn), sS, sJ 0, sS, sJ 0, sS, sI 0, sI 0, sJ 0, sS, sJ (fMag cn), sS, sJ 0, sS, sJ 0, sS, sJ 0, sS, sJ (fMag cn), sS, sJ 0, sS, sJ 0, sS, sJ (l0 + (0 : Int64)), sS, sJ 0, sS, sJ (l1 + (fMag cn)), sS, sJ ((l1 + (fMag cn)) + (0 : Int64)), sS, sU, sU, sU, sU, sU, sU, sU, sU, sU, sU] [(.int (cu (l1 + (fMag cn)) l1))])) := by
      by_cases hc417 : (cu (l1 + (fMag cn)) l1) < (0 : Int32)
      · refine Sg.go (fun _ hr => zXS_ifYes X415.here hx rfl (pc0 := 476) (pc' := 489) rfl (hb hby d3_476) rfl (XT.i0_lt_t hc417) (by decide) (by decide) (zXT_lconst X415.here hx rfl (hb hby d3_489) (zXS_goto X415.here hx rfl (pc0 := 490) (pc' := 494) rfl (hb hby d3_490) (by decide) (by decide) hr))) ?_
        show Sg _ _ p.tables e below (T415.setTop (mkF m 494 #[.val (.ref x), sJ cn, sS, sJ 1, sS, sJ 0, sS, sJ pt, sS, sJ (fMag cn), sS, sJ 0, sS, sJ 0, sS, sJ (fMag cn), sS, sJ 0, sS, sJ 0, sS, sI 0, sI 0, sJ 0, sS, sJ (fMag cn), sS, sJ 0, sS, sJ 0, sS, sJ 0, sS, sJ (fMag cn), sS, sJ 0, sS, sJ 0, sS, sJ (l0 + (0 : Int64)), sS, sJ 0, sS, sJ (l1 + (fMag cn)), sS, sJ ((l1 + (fMag cn)) + (0 : Int64)), sS, sU, sU, sU, sU, sU, sU, sU, sU, sU, sU] [(.long (1 : Int64))]))
        exact ⟨T415, ⟨_, N415, X415, e415⟩, fun _ hr => by rw [if_pos (Or.inl hc417)] at hr; exact hr⟩
      · refine Sg.go (fun _ hr => zXS_ifNo X415.here hx rfl (hb hby d3_476) rfl (XT.i0_lt_f hc417) (zXT_lload X415.here hx rfl (hb hby d3_479) rfl (zXT_lload X415.here hx rfl (hb hby d3_481) rfl hr))) ?_
        have zz418 : n0 ≤ h0.size := by omega
        refine gStaticN Sg.cl (y := (⟨"java/lang/Long", "compareUnsigned", "(JJ)I"⟩ : MethodName)) (argsL := [(.long ((l1 + (fMag cn)) + (0 : Int64))), (.long (l1 + (fMag cn)))]) (rest := []) (mc := 0) (ms := 0) X415 hx hZ hown (mvT hZ (hw _ (List.mem_of_getElem? (i := 46) rfl))) (mvT hZ (hw _ (List.mem_of_getElem? (i := 47) rfl))) (mvT hZ (hw _ (List.mem_of_getElem? (i := 48) rfl))) (mvT hZ (hw _ (List.mem_of_getElem? (i := 49) rfl))) (by decide) (backOf (W := 0) (cum l Z a0 hw [] ((l1 + (fMag cn)) + (0 : Int64)) (l1 + (fMag cn)) h0 n0 zz418 ) hZ (hw _ (List.mem_of_getElem? (i := 49) rfl)) (hw _ (List.mem_of_getElem? (i := 48) rfl)) (by decide) (by decide)) rfl (by rw [hml]; rfl) (lenOf pd_1 rfl) rfl (by show 2 * 0 + _ ≤ _; exact Nat.le_of_eq rfl) (hb hby d3_483) rfl e415 (by decide) (by decide) ?_
        intro v418 T418 Lc418 hQ418 X418
        obtain ⟨rfl, Nq418, e418⟩ := hQ418
        have N418 := Fr.app N415 Nq418
        by_cases hc419 : (cu ((l1 + (fMag cn)) + (0 : Int64)) (l1 + (fMag cn))) < (0 : Int32)
        · refine Sg.go (fun _ hr => zXS_ifNo X418.here hx rfl (hb hby d3_486) rfl (XT.i0_ge_f hc419) (zXT_lconst X418.here hx rfl (hb hby d3_489) (zXS_goto X418.here hx rfl (pc0 := 490) (pc' := 494) rfl (hb hby d3_490) (by decide) (by decide) hr))) ?_
          show Sg _ _ p.tables e below (T418.setTop (mkF m 494 #[.val (.ref x), sJ cn, sS, sJ 1, sS, sJ 0, sS, sJ pt, sS, sJ (fMag cn), sS, sJ 0, sS, sJ 0, sS, sJ (fMag cn), sS, sJ 0, sS, sJ 0, sS, sI 0, sI 0, sJ 0, sS, sJ (fMag cn), sS, sJ 0, sS, sJ 0, sS, sJ 0, sS, sJ (fMag cn), sS, sJ 0, sS, sJ 0, sS, sJ (l0 + (0 : Int64)), sS, sJ 0, sS, sJ (l1 + (fMag cn)), sS, sJ ((l1 + (fMag cn)) + (0 : Int64)), sS, sU, sU, sU, sU, sU, sU, sU, sU, sU, sU] [(.long (1 : Int64))]))
          exact ⟨T418, ⟨_, N418, X418, e418⟩, fun _ hr => by rw [if_pos (Or.inr hc419)] at hr; exact hr⟩
        · refine Sg.go (fun _ hr => zXS_ifYes X418.here hx rfl (pc0 := 486) (pc' := 493) rfl (hb hby d3_486) rfl (XT.i0_ge_t hc419) (by decide) (by decide) (zXT_lconst X418.here hx rfl (hb hby d3_493) hr)) ?_
          show Sg _ _ p.tables e below (T418.setTop (mkF m 494 #[.val (.ref x), sJ cn, sS, sJ 1, sS, sJ 0, sS, sJ pt, sS, sJ (fMag cn), sS, sJ 0, sS, sJ 0, sS, sJ (fMag cn), sS, sJ 0, sS, sJ 0, sS, sI 0, sI 0, sJ 0, sS, sJ (fMag cn), sS, sJ 0, sS, sJ 0, sS, sJ 0, sS, sJ (fMag cn), sS, sJ 0, sS, sJ 0, sS, sJ (l0 + (0 : Int64)), sS, sJ 0, sS, sJ (l1 + (fMag cn)), sS, sJ ((l1 + (fMag cn)) + (0 : Int64)), sS, sU, sU, sU, sU, sU, sU, sU, sU, sU, sU] [(.long (0 : Int64))]))
          exact ⟨T418, ⟨_, N418, X418, e418⟩, fun _ hr => by rw [if_neg (not_or.mpr ⟨hc417, hc419⟩)] at hr; exact hr⟩
    refine Gl.go st416 ?_
    show Gl p.tables e below _ (T416.setTop (mkF m 494 #[.val (.ref x), sJ cn, sS, sJ 1, sS, sJ 0, sS, sJ pt, sS, sJ (fMag cn), sS, sJ 0, sS, sJ 0, sS, sJ (fMag cn), sS, sJ 0, sS, sJ 0, sS, sI 0, sI 0, sJ 0, sS, sJ (fMag cn), sS, sJ 0, sS, sJ 0, sS, sJ 0, sS, sJ (fMag cn), sS, sJ 0, sS, sJ 0, sS, sJ (l0 + (0 : Int64)), sS, sJ 0, sS, sJ (l1 + (fMag cn)), sS, sJ ((l1 + (fMag cn)) + (0 : Int64)), sS, sU, sU, sU, sU, sU, sU, sU, sU, sU, sU] [(.long (if cu (l1 + (fMag cn)) l1 < 0 ∨ cu ((l1 + (fMag cn)) + (0 : Int64)) (l1 + (fMag cn)) < 0 then (1 : Int64) else 0))]))
    obtain ⟨k420, hq_k420⟩ : ∃ q, q = (if cu (l1 + (fMag cn)) l1 < 0 ∨ cu ((l1 + (fMag cn)) + (0 : Int64)) (l1 + (fMag cn)) < 0 then (1 : Int64) else 0) := ⟨_, rfl⟩
    rw [← hq_k420]
    have hq_k420_ : k420 = 0 ∨ k420 = 1 := by rw [hq_k420]; exact own_k01
    show Gl p.tables e below _ (T416.setTop (mkF m 494 #[.val (.ref x), sJ cn, sS, sJ 1, sS, sJ 0, sS, sJ pt, sS, sJ (fMag cn), sS, sJ 0, sS, sJ 0, sS, sJ (fMag cn), sS, sJ 0, sS, sJ 0, sS, sI 0, sI 0, sJ 0, sS, sJ (fMag cn), sS, sJ 0, sS, sJ 0, sS, sJ 0, sS, sJ (fMag cn), sS, sJ 0, sS, sJ 0, sS, sJ (l0 + (0 : Int64)), sS, sJ 0, sS, sJ (l1 + (fMag cn)), sS, sJ ((l1 + (fMag cn)) + (0 : Int64)), sS, sU, sU, sU, sU, sU, sU, sU, sU, sU, sU] [(.long k420)]))
    refine Gl.go (fun _ hr => zXT_lstore X416.here hx rfl (hb hby d3_494) rfl (l' := #[.val (.ref x), sJ cn, sS, sJ 1, sS, sJ 0, sS, sJ pt, sS, sJ (fMag cn), sS, sJ 0, sS, sJ 0, sS, sJ (fMag cn), sS, sJ 0, sS, sJ 0, sS, sI 0, sI 0, sJ 0, sS, sJ (fMag cn), sS, sJ 0, sS, sJ 0, sS, sJ 0, sS, sJ (fMag cn), sS, sJ 0, sS, sJ 0, sS, sJ (l0 + (0 : Int64)), sS, sJ 0, sS, sJ (l1 + (fMag cn)), sS, sJ ((l1 + (fMag cn)) + (0 : Int64)), sS, sJ k420, sS, sU, sU, sU, sU, sU, sU, sU, sU]) rfl (zXS_aloadN X416.here hx rfl (hb hby d3_496) rfl rfl hr)) ?_
    refine gGetF (host := "") Gl.cl X416 hx hZ hown (Or.inl (hw _ (List.mem_of_getElem? (i := 31) rfl))) Via.refl e416 q5 rfl rfl (hb hby d3_497) ?_
    intro T421 X421 e421
    refine Gl.go (fun _ hr => zXT_lload X421.here hx rfl (hb hby d3_500) rfl (zXT_ladd X421.here hx rfl (hb hby d3_502) rfl (zXT_lstore X421.here hx rfl (hb hby d3_503) rfl (l' := #[.val (.ref x), sJ cn, sS, sJ 1, sS, sJ 0, sS, sJ pt, sS, sJ (fMag cn), sS, sJ 0, sS, sJ 0, sS, sJ (fMag cn), sS, sJ 0, sS, sJ 0, sS, sI 0, sI 0, sJ 0, sS, sJ (fMag cn), sS, sJ 0, sS, sJ 0, sS, sJ 0, sS, sJ (fMag cn), sS, sJ 0, sS, sJ 0, sS, sJ (l0 + (0 : Int64)), sS, sJ 0, sS, sJ (l1 + (fMag cn)), sS, sJ ((l1 + (fMag cn)) + (0 : Int64)), sS, sJ k420, sS, sJ (l2 + (0 : Int64)), sS, sU, sU, sU, sU, sU, sU]) rfl (zXT_lload X421.here hx rfl (hb hby d3_505) rfl (zXT_lload X421.here hx rfl (hb hby d3_507) rfl (zXT_ladd X421.here hx rfl (hb hby d3_509) rfl (zXT_lstore X421.here hx rfl (hb hby d3_510) rfl (l' := #[.val (.ref x), sJ cn, sS, sJ 1, sS, sJ 0, sS, sJ pt, sS, sJ (fMag cn), sS, sJ 0, sS, sJ 0, sS, sJ (fMag cn), sS, sJ 0, sS, sJ 0, sS, sI 0, sI 0, sJ 0, sS, sJ (fMag cn), sS, sJ 0, sS, sJ 0, sS, sJ 0, sS, sJ (fMag cn), sS, sJ 0, sS, sJ 0, sS, sJ (l0 + (0 : Int64)), sS, sJ 0, sS, sJ (l1 + (fMag cn)), sS, sJ ((l1 + (fMag cn)) + (0 : Int64)), sS, sJ k420, sS, sJ (l2 + (0 : Int64)), sS, sJ ((l2 + (0 : Int64)) + k420), sS, sU, sU, sU, sU]) rfl (zXT_lload X421.here hx rfl (hb hby d3_512) rfl (zXS_aloadN X421.here hx rfl (hb hby d3_514) rfl rfl hr))))))))) ?_
    refine gGetF (host := "") Gl.cl X421 hx hZ hown (Or.inl (hw _ (List.mem_of_getElem? (i := 31) rfl))) Via.refl e421 q5 rfl rfl (hb hby d3_515) ?_
    intro T422 X422 e422
    have zz423 : n0 ≤ h0.size := by omega
    refine gStaticN Gl.cl (y := (⟨"java/lang/Long", "compareUnsigned", "(JJ)I"⟩ : MethodName)) (argsL := [(.long (l2 + (0 : Int64))), (.long l2)]) (rest := []) (mc := 0) (ms := 0) X422 hx hZ hown (mvT hZ (hw _ (List.mem_of_getElem? (i := 46) rfl))) (mvT hZ (hw _ (List.mem_of_getElem? (i := 47) rfl))) (mvT hZ (hw _ (List.mem_of_getElem? (i := 48) rfl))) (mvT hZ (hw _ (List.mem_of_getElem? (i := 49) rfl))) (by decide) (backOf (W := 0) (cum l Z a0 hw [] (l2 + (0 : Int64)) l2 h0 n0 zz423 ) hZ (hw _ (List.mem_of_getElem? (i := 49) rfl)) (hw _ (List.mem_of_getElem? (i := 48) rfl)) (by decide) (by decide)) rfl (by rw [hml]; rfl) (lenOf pd_1 rfl) rfl (by show 2 * 0 + _ ≤ _; exact Nat.le_of_eq rfl) (hb hby d3_518) rfl e422 (by decide) (by decide) ?_
    intro v423 T423 Lc423 hQ423 X423
    obtain ⟨rfl, Nq423, e423⟩ := hQ423
    have N423 := Fr.app N416 Nq423
    obtain ⟨T424, ⟨lc424, N424, X424, e424⟩, st424⟩ : Sg (fun U => ∃ lc, Fr n0 lc ∧ Stand p l e ({ frames := 2, cells := 0, slots := 0, locals := 50 } : Room) s m #[(.ref x), (.long cn), (.long (1 : Int64)), (.long (0 : Int64)), (.long pt)] below meth c U lc 0 0 ∧ U.heap = h0) (mkF m 539 #[.val (.ref x), sJ cn, sS, sJ 1, sS, sJ 0, sS, sJ pt, sS, sJ (fMag cn), sS, sJ 0, sS, sJ 0, sS, sJ (fMag cn), sS, sJ 0, sS, sJ 0, sS, sI 0, sI 0, sJ 0, sS, sJ (fMag cn), sS, sJ 0, sS, sJ 0, sS, sJ 0, sS, sJ (fMag cn), sS, sJ 0, sS, sJ 0, sS, sJ (l0 + (0 : Int64)), sS, sJ 0, sS, sJ (l1 + (fMag cn)), sS, sJ ((l1 + (fMag cn)) + (0 : Int64)), sS, sJ k420, sS, sJ (l2 + (0 : Int64)), sS, sJ ((l2 + (0 : Int64)) + k420), sS, sU, sU, sU, sU] [(.long (if cu (l2 + (0 : Int64)) l2 < 0 ∨ cu ((l2 + (0 : Int64)) + k420) (l2 + (0 : Int64)) < 0 then (1 : Int64) else 0))]) p.tables e below (T423.setTop (mkF m 521 #[.val (.ref x), sJ cn, sS, sJ 1, sS, sJ 0, sS, sJ pt, sS, sJ (fMag cn), sS, sJ 0, sS, sJ 0, sS, sJ (fMag cn), sS, sJ 0, sS, sJ 0, sS, sI 0, sI 0, sJ 0, sS, sJ (fMag cn), sS, sJ 0, sS, sJ 0, sS, sJ 0, sS, sJ (fMag cn), sS, sJ 0, sS, sJ 0, sS, sJ (l0 + (0 : Int64)), sS, sJ 0, sS, sJ (l1 + (fMag cn)), sS, sJ ((l1 + (fMag cn)) + (0 : Int64)), sS, sJ k420, sS, sJ (l2 + (0 : Int64)), sS, sJ ((l2 + (0 : Int64)) + k420), sS, sU, sU, sU, sU] [(.int (cu (l2 + (0 : Int64)) l2))])) := by
      by_cases hc425 : (cu (l2 + (0 : Int64)) l2) < (0 : Int32)
      · refine Sg.go (fun _ hr => zXS_ifYes X423.here hx rfl (pc0 := 521) (pc' := 534) rfl (hb hby d3_521) rfl (XT.i0_lt_t hc425) (by decide) (by decide) (zXT_lconst X423.here hx rfl (hb hby d3_534) (zXS_goto X423.here hx rfl (pc0 := 535) (pc' := 539) rfl (hb hby d3_535) (by decide) (by decide) hr))) ?_
        show Sg _ _ p.tables e below (T423.setTop (mkF m 539 #[.val (.ref x), sJ cn, sS, sJ 1, sS, sJ 0, sS, sJ pt, sS, sJ (fMag cn), sS, sJ 0, sS, sJ 0, sS, sJ (fMag cn), sS, sJ 0, sS, sJ 0, sS, sI 0, sI 0, sJ 0, sS, sJ (fMag cn), sS, sJ 0, sS, sJ 0, sS, sJ 0, sS, sJ (fMag cn), sS, sJ 0, sS, sJ 0, sS, sJ (l0 + (0 : Int64)), sS, sJ 0, sS, sJ (l1 + (fMag cn)), sS, sJ ((l1 + (fMag cn)) + (0 : Int64)), sS, sJ k420, sS, sJ (l2 + (0 : Int64)), sS, sJ ((l2 + (0 : Int64)) + k420), sS, sU, sU, sU, sU] [(.long (1 : Int64))]))
        exact ⟨T423, ⟨_, N423, X423, e423⟩, fun _ hr => by rw [if_pos (Or.inl hc425)] at hr; exact hr⟩
      · refine Sg.go (fun _ hr => zXS_ifNo X423.here hx rfl (hb hby d3_521) rfl (XT.i0_lt_f hc425) (zXT_lload X423.here hx rfl (hb hby d3_524) rfl (zXT_lload X423.here hx rfl (hb hby d3_526) rfl hr))) ?_
        have zz426 : n0 ≤ h0.size := by omega
        refine gStaticN Sg.cl (y := (⟨"java/lang/Long", "compareUnsigned", "(JJ)I"⟩ : MethodName)) (argsL := [(.long ((l2 + (0 : Int64)) + k420)), (.long (l2 + (0 : Int64)))]) (rest := []) (mc := 0) (ms := 0) X423 hx hZ hown (mvT hZ (hw _ (List.mem_of_getElem? (i := 46) rfl))) (mvT hZ (hw _ (List.mem_of_getElem? (i := 47) rfl))) (mvT hZ (hw _ (List.mem_of_getElem? (i := 48) rfl))) (mvT hZ (hw _ (List.mem_of_getElem? (i := 49) rfl))) (by decide) (backOf (W := 0) (cum l Z a0 hw [] ((l2 + (0 : Int64)) + k420) (l2 + (0 : Int64)) h0 n0 zz426 ) hZ (hw _ (List.mem_of_getElem? (i := 49) rfl)) (hw _ (List.mem_of_getElem? (i := 48) rfl)) (by decide) (by decide)) rfl (by rw [hml]; rfl) (lenOf pd_1 rfl) rfl (by show 2 * 0 + _ ≤ _; exact Nat.le_of_eq rfl) (hb hby d3_528) rfl e423 (by decide) (by decide) ?_
        intro v426 T426 Lc426 hQ426 X426
        obtain ⟨rfl, Nq426, e426⟩ := hQ426
        have N426 := Fr.app N423 Nq426
        by_cases hc427 : (cu ((l2 + (0 : Int64)) + k420) (l2 + (0 : Int64))) < (0 : Int32)
        · refine Sg.go (fun _ hr => zXS_ifNo X426.here hx rfl (hb hby d3_531) rfl (XT.i0_ge_f hc427) (zXT_lconst X426.here hx rfl (hb hby d3_534) (zXS_goto X426.here hx rfl (pc0 := 535) (pc' := 539) rfl (hb hby d3_535) (by decide) (by decide) hr))) ?_
          show Sg _ _ p.tables e below (T426.setTop (mkF m 539 #[.val (.ref x), sJ cn, sS, sJ 1, sS, sJ 0, sS, sJ pt, sS, sJ (fMag cn), sS, sJ 0, sS, sJ 0, sS, sJ (fMag cn), sS, sJ 0, sS, sJ 0, sS, sI 0, sI 0, sJ 0, sS, sJ (fMag cn), sS, sJ 0, sS, sJ 0, sS, sJ 0, sS, sJ (fMag cn), sS, sJ 0, sS, sJ 0, sS, sJ (l0 + (0 : Int64)), sS, sJ 0, sS, sJ (l1 + (fMag cn)), sS, sJ ((l1 + (fMag cn)) + (0 : Int64)), sS, sJ k420, sS, sJ (l2 + (0 : Int64)), sS, sJ ((l2 + (0 : Int64)) + k420), sS, sU, sU, sU, sU] [(.long (1 : Int64))]))
          exact ⟨T426, ⟨_, N426, X426, e426⟩, fun _ hr => by rw [if_pos (Or.inr hc427)] at hr; exact hr⟩
        · refine Sg.go (fun _ hr => zXS_ifYes X426.here hx rfl (pc0 := 531) (pc' := 538) rfl (hb hby d3_531) rfl (XT.i0_ge_t hc427) (by decide) (by decide) (zXT_lconst X426.here hx rfl (hb hby d3_538) hr)) ?_
          show Sg _ _ p.tables e below (T426.setTop (mkF m 539 #[.val (.ref x), sJ cn, sS, sJ 1, sS, sJ 0, sS, sJ pt, sS, sJ (fMag cn), sS, sJ 0, sS, sJ 0, sS, sJ (fMag cn), sS, sJ 0, sS, sJ 0, sS, sI 0, sI 0, sJ 0, sS, sJ (fMag cn), sS, sJ 0, sS, sJ 0, sS, sJ 0, sS, sJ (fMag cn), sS, sJ 0, sS, sJ 0, sS, sJ (l0 + (0 : Int64)), sS, sJ 0, sS, sJ (l1 + (fMag cn)), sS, sJ ((l1 + (fMag cn)) + (0 : Int64)), sS, sJ k420, sS, sJ (l2 + (0 : Int64)), sS, sJ ((l2 + (0 : Int64)) + k420), sS, sU, sU, sU, sU] [(.long (0 : Int64))]))
          exact ⟨T426, ⟨_, N426, X426, e426⟩, fun _ hr => by rw [if_neg (not_or.mpr ⟨hc425, hc427⟩)] at hr; exact hr⟩
    refine Gl.go st424 ?_
    show Gl p.tables e below _ (T424.setTop (mkF m 539 #[.val (.ref x), sJ cn, sS, sJ 1, sS, sJ 0, sS, sJ pt, sS, sJ (fMag cn), sS, sJ 0, sS, sJ 0, sS, sJ (fMag cn), sS, sJ 0, sS, sJ 0, sS, sI 0, sI 0, sJ 0, sS, sJ (fMag cn), sS, sJ 0, sS, sJ 0, sS, sJ 0, sS, sJ (fMag cn), sS, sJ 0, sS, sJ 0, sS, sJ (l0 + (0 : Int64)), sS, sJ 0, sS, sJ (l1 + (fMag cn)), sS, sJ ((l1 + (fMag cn)) + (0 : Int64)), sS, sJ k420, sS, sJ (l2 + (0 : Int64)), sS, sJ ((l2 + (0 : Int64)) + k420), sS, sU, sU, sU, sU] [(.long (if cu (l2 + (0 : Int64)) l2 < 0 ∨ cu ((l2 + (0 : Int64)) + k420) (l2 + (0 : Int64)) < 0 then (1 : Int64) else 0))]))
    obtain ⟨k428, hq_k428⟩ : ∃ q, q = (if cu (l2 + (0 : Int64)) l2 < 0 ∨ cu ((l2 + (0 : Int64)) + k420) (l2 + (0 : Int64)) < 0 then (1 : Int64) else 0) := ⟨_, rfl⟩
    rw [← hq_k428]
    have hq_k428_ : k428 = 0 ∨ k428 = 1 := by rw [hq_k428]; exact own_k01
    show Gl p.tables e below _ (T424.setTop (mkF m 539 #[.val (.ref x), sJ cn, sS, sJ 1, sS, sJ 0, sS, sJ pt, sS, sJ (fMag cn), sS, sJ 0, sS, sJ 0, sS, sJ (fMag cn), sS, sJ 0, sS, sJ 0, sS, sI 0, sI 0, sJ 0, sS, sJ (fMag cn), sS, sJ 0, sS, sJ 0, sS, sJ 0, sS, sJ (fMag cn), sS, sJ 0, sS, sJ 0, sS, sJ (l0 + (0 : Int64)), sS, sJ 0, sS, sJ (l1 + (fMag cn)), sS, sJ ((l1 + (fMag cn)) + (0 : Int64)), sS, sJ k420, sS, sJ (l2 + (0 : Int64)), sS, sJ ((l2 + (0 : Int64)) + k420), sS, sU, sU, sU, sU] [(.long k428)]))
    refine Gl.go (fun _ hr => zXT_lstore X424.here hx rfl (hb hby d3_539) rfl (l' := #[.val (.ref x), sJ cn, sS, sJ 1, sS, sJ 0, sS, sJ pt, sS, sJ (fMag cn), sS, sJ 0, sS, sJ 0, sS, sJ (fMag cn), sS, sJ 0, sS, sJ 0, sS, sI 0, sI 0, sJ 0, sS, sJ (fMag cn), sS, sJ 0, sS, sJ 0, sS, sJ 0, sS, sJ (fMag cn), sS, sJ 0, sS, sJ 0, sS, sJ (l0 + (0 : Int64)), sS, sJ 0, sS, sJ (l1 + (fMag cn)), sS, sJ ((l1 + (fMag cn)) + (0 : Int64)), sS, sJ k420, sS, sJ (l2 + (0 : Int64)), sS, sJ ((l2 + (0 : Int64)) + k420), sS, sJ k428, sS, sU, sU]) rfl (zXS_aloadN X424.here hx rfl (hb hby d3_541) rfl rfl hr)) ?_
    refine gGetF (host := "") Gl.cl X424 hx hZ hown (Or.inl (hw _ (List.mem_of_getElem? (i := 33) rfl))) Via.refl e424 q6 rfl rfl (hb hby d3_542) ?_
    intro T429 X429 e429
    refine Gl.go (fun _ hr => zXT_lload X429.here hx rfl (hb hby d3_545) rfl (zXT_ladd X429.here hx rfl (hb hby d3_547) rfl (zXT_lload X429.here hx rfl (hb hby d3_548) rfl (zXT_ladd X429.here hx rfl (hb hby d3_550) rfl (zXT_lstore X429.here hx rfl (hb hby d3_551) rfl (l' := #[.val (.ref x), sJ cn, sS, sJ 1, sS, sJ 0, sS, sJ pt, sS, sJ (fMag cn), sS, sJ 0, sS, sJ 0, sS, sJ (fMag cn), sS, sJ 0, sS, sJ 0, sS, sI 0, sI 0, sJ 0, sS, sJ (fMag cn), sS, sJ 0, sS, sJ 0, sS, sJ 0, sS, sJ (fMag cn), sS, sJ 0, sS, sJ 0, sS, sJ (l0 + (0 : Int64)), sS, sJ 0, sS, sJ (l1 + (fMag cn)), sS, sJ ((l1 + (fMag cn)) + (0 : Int64)), sS, sJ k420, sS, sJ (l2 + (0 : Int64)), sS, sJ ((l2 + (0 : Int64)) + k420), sS, sJ k428, sS, sJ ((l3 + (0 : Int64)) + k428), sS]) rfl (zXS_aloadN X429.here hx rfl (hb hby d3_553) rfl rfl hr)))))) ?_
    refine gGetF (host := "") Gl.cl X429 hx hZ hown (Or.inl (hw _ (List.mem_of_getElem? (i := 33) rfl))) Via.refl e429 q6 rfl rfl (hb hby d3_554) ?_
    intro T430 X430 e430
    refine Gl.go (fun _ hr => zXT_lload X430.here hx rfl (hb hby d3_557) rfl (zXT_lxor X430.here hx rfl (hb hby d3_559) rfl (zXT_lload X430.here hx rfl (hb hby d3_560) rfl (zXT_lload X430.here hx rfl (hb hby d3_562) rfl (zXT_lxor X430.here hx rfl (hb hby d3_564) rfl (zXT_land X430.here hx rfl (hb hby d3_565) rfl (zXT_lconst X430.here hx rfl (hb hby d3_566) (zXT_lcmp X430.here hx rfl (hb hby d3_567) rfl hr)))))))) ?_
    refine Gl.go (fun _ hr => zXS_ifYes X430.here hx rfl (pc0 := 568) (pc' := 581) rfl (hb hby d3_568) rfl (XT.ll_ge_t (own_ov hl3 hq_k428_ (Or.inl rfl))) (by decide) (by decide) (zXS_aloadN X430.here hx rfl (hb hby d3_581) rfl rfl (zXT_lload X430.here hx rfl (hb hby d3_582) rfl hr))) ?_
    refine gPutF (host := "") Gl.cl X430 hx hZ hown (Or.inl (hw _ (List.mem_of_getElem? (i := 27) rfl))) Via.refl e430 q3 q0 (Or.inl (hw _ (List.mem_of_getElem? (i := 28) rfl))) (hw _ (List.mem_of_getElem? (i := 5) rfl)) (ty := .long) (by decide) rfl rfl rfl rfl (hb hby d3_584) ?_
    intro T431 h431 X431 e431 W431
    have z432 : h0.size ≤ h431.size := (Keep.of_wr W431).1
    have Fw431 := q3.same W431
    have N431 := Fr.snoc X431 N424 (own_ale (by omega))
    refine Gl.go (fun _ hr => zXS_aloadN X431.here hx rfl (hb hby d3_587) rfl rfl (zXT_lload X431.here hx rfl (hb hby d3_588) rfl hr)) ?_
    have Fc433 := (q4.other W431 (Or.inr (slot_ne (Or.inl (hw _ (List.mem_of_getElem? (i := 30) rfl))) (Or.inl (hw _ (List.mem_of_getElem? (i := 28) rfl))) (by decide) (t := .long) (t' := .long) (by decide) (by decide))))
    have Ec434 := (q0.wr W431)
    refine gPutF (host := "") Gl.cl X431 hx hZ hown (Or.inl (hw _ (List.mem_of_getElem? (i := 29) rfl))) Via.refl e431 Fc433 Ec434 (Or.inl (hw _ (List.mem_of_getElem? (i := 30) rfl))) (hw _ (List.mem_of_getElem? (i := 5) rfl)) (ty := .long) (by decide) rfl rfl rfl rfl (hb hby d3_590) ?_
    intro T435 h435 X435 e435 W435
    have z436 : h431.size ≤ h435.size := (Keep.of_wr W435).1
    have Fw435 := Fc433.same W435
    have N435 := Fr.snoc X435 N431 (own_ale (by omega))
    refine Gl.go (fun _ hr => zXS_aloadN X435.here hx rfl (hb hby d3_593) rfl rfl (zXT_lload X435.here hx rfl (hb hby d3_594) rfl hr)) ?_
    have Fc437 := ((q5.other W431 (Or.inr (slot_ne (Or.inl (hw _ (List.mem_of_getElem? (i := 32) rfl))) (Or.inl (hw _ (List.mem_of_getElem? (i := 28) rfl))) (by decide) (t := .long) (t' := .long) (by decide) (by decide)))).other W435 (Or.inr (slot_ne (Or.inl (hw _ (List.mem_of_getElem? (i := 32) rfl))) (Or.inl (hw _ (List.mem_of_getElem? (i := 30) rfl))) (by decide) (t := .long) (t' := .long) (by decide) (by decide))))
    have Ec438 := (Ec434.wr W435)
    refine gPutF (host := "") Gl.cl X435 hx hZ hown (Or.inl (hw _ (List.mem_of_getElem? (i := 31) rfl))) Via.refl e435 Fc437 Ec438 (Or.inl (hw _ (List.mem_of_getElem? (i := 32) rfl))) (hw _ (List.mem_of_getElem? (i := 5) rfl)) (ty := .long) (by decide) rfl rfl rfl rfl (hb hby d3_596) ?_
    intro T439 h439 X439 e439 W439
    have z440 : h435.size ≤ h439.size := (Keep.of_wr W439).1
    have Fw439 := Fc437.same W439
    have N439 := Fr.snoc X439 N435 (own_ale (by omega))
    refine Gl.go (fun _ hr => zXS_aloadN X439.here hx rfl (hb hby d3_599) rfl rfl (zXT_lload X439.here hx rfl (hb hby d3_600) rfl hr)) ?_
    have Fc441 := (((q6.other W431 (Or.inr (slot_ne (Or.inl (hw _ (List.mem_of_getElem? (i := 34) rfl))) (Or.inl (hw _ (List.mem_of_getElem? (i := 28) rfl))) (by decide) (t := .long) (t' := .long) (by decide) (by decide)))).other W435 (Or.inr (slot_ne (Or.inl (hw _ (List.mem_of_getElem? (i := 34) rfl))) (Or.inl (hw _ (List.mem_of_getElem? (i := 30) rfl))) (by decide) (t := .long) (t' := .long) (by decide) (by decide)))).other W439 (Or.inr (slot_ne (Or.inl (hw _ (List.mem_of_getElem? (i := 34) rfl))) (Or.inl (hw _ (List.mem_of_getElem? (i := 32) rfl))) (by decide) (t := .long) (t' := .long) (by decide) (by decide))))
    have Ec442 := (Ec438.wr W439)
    refine gPutF (host := "") Gl.cl X439 hx hZ hown (Or.inl (hw _ (List.mem_of_getElem? (i := 33) rfl))) Via.refl e439 Fc441 Ec442 (Or.inl (hw _ (List.mem_of_getElem? (i := 34) rfl))) (hw _ (List.mem_of_getElem? (i := 5) rfl)) (ty := .long) (by decide) rfl rfl rfl rfl (hb hby d3_602) ?_
    intro T443 h443 X443 e443 W443
    have z444 : h439.size ≤ h443.size := (Keep.of_wr W443).1
    have Fw443 := Fc441.same W443
    have N443 := Fr.snoc X443 N439 (own_ale (by omega))
    refine Gl.go (fun _ hr => zXS_aloadN X443.here hx rfl (hb hby d3_605) rfl rfl (zXS_iconst X443.here hx rfl (hb hby d3_606) hr)) ?_
    have Fc445 := ((((q7.other W431 (Or.inr (slot_ne (Or.inl (hw _ (List.mem_of_getElem? (i := 66) rfl))) (Or.inl (hw _ (List.mem_of_getElem? (i := 28) rfl))) (by decide) (t := .boolean) (t' := .long) (by decide) (by decide)))).other W435 (Or.inr (slot_ne (Or.inl (hw _ (List.mem_of_getElem? (i := 66) rfl))) (Or.inl (hw _ (List.mem_of_getElem? (i := 30) rfl))) (by decide) (t := .boolean) (t' := .long) (by decide) (by decide)))).other W439 (Or.inr (slot_ne (Or.inl (hw _ (List.mem_of_getElem? (i := 66) rfl))) (Or.inl (hw _ (List.mem_of_getElem? (i := 32) rfl))) (by decide) (t := .boolean) (t' := .long) (by decide) (by decide)))).other W443 (Or.inr (slot_ne (Or.inl (hw _ (List.mem_of_getElem? (i := 66) rfl))) (Or.inl (hw _ (List.mem_of_getElem? (i := 34) rfl))) (by decide) (t := .boolean) (t' := .long) (by decide) (by decide))))
    have Ec446 := (Ec442.wr W443)
    refine gPutF (host := "") Gl.cl X443 hx hZ hown (Or.inl (hw _ (List.mem_of_getElem? (i := 65) rfl))) Via.refl e443 Fc445 Ec446 (Or.inl (hw _ (List.mem_of_getElem? (i := 66) rfl))) (hw _ (List.mem_of_getElem? (i := 5) rfl)) (ty := .boolean) (by decide) rfl rfl rfl rfl (hb hby d3_607) ?_
    intro T447 h447 X447 e447 W447
    have z448 : h443.size ≤ h447.size := (Keep.of_wr W447).1
    have Fw447 := Fc445.same W447
    have N447 := Fr.snoc X447 N443 (own_ale (by omega))
    have Ec449 := (Ec446.wr W447)
    have Fc450 := (((((q2.other W431 (Or.inr (slot_ne (Or.inl (hw _ (List.mem_of_getElem? (i := 15) rfl))) (Or.inl (hw _ (List.mem_of_getElem? (i := 28) rfl))) (by decide) (t := .long) (t' := .long) (by decide) (by decide)))).other W435 (Or.inr (slot_ne (Or.inl (hw _ (List.mem_of_getElem? (i := 15) rfl))) (Or.inl (hw _ (List.mem_of_getElem? (i := 30) rfl))) (by decide) (t := .long) (t' := .long) (by decide) (by decide)))).other W439 (Or.inr (slot_ne (Or.inl (hw _ (List.mem_of_getElem? (i := 15) rfl))) (Or.inl (hw _ (List.mem_of_getElem? (i := 32) rfl))) (by decide) (t := .long) (t' := .long) (by decide) (by decide)))).other W443 (Or.inr (slot_ne (Or.inl (hw _ (List.mem_of_getElem? (i := 15) rfl))) (Or.inl (hw _ (List.mem_of_getElem? (i := 34) rfl))) (by decide) (t := .long) (t' := .long) (by decide) (by decide)))).other W447 (Or.inr (slot_ne (Or.inl (hw _ (List.mem_of_getElem? (i := 15) rfl))) (Or.inl (hw _ (List.mem_of_getElem? (i := 66) rfl))) (by decide) (t := .long) (t' := .boolean) (by decide) (by decide))))
    have Fc451 := ((((Fw431.other W435 (Or.inr (slot_ne (Or.inl (hw _ (List.mem_of_getElem? (i := 28) rfl))) (Or.inl (hw _ (List.mem_of_getElem? (i := 30) rfl))) (by decide) (t := .long) (t' := .long) (by decide) (by decide)))).other W439 (Or.inr (slot_ne (Or.inl (hw _ (List.mem_of_getElem? (i := 28) rfl))) (Or.inl (hw _ (List.mem_of_getElem? (i := 32) rfl))) (by decide) (t := .long) (t' := .long) (by decide) (by decide)))).other W443 (Or.inr (slot_ne (Or.inl (hw _ (List.mem_of_getElem? (i := 28) rfl))) (Or.inl (hw _ (List.mem_of_getElem? (i := 34) rfl))) (by decide) (t := .long) (t' := .long) (by decide) (by decide)))).other W447 (Or.inr (slot_ne (Or.inl (hw _ (List.mem_of_getElem? (i := 28) rfl))) (Or.inl (hw _ (List.mem_of_getElem? (i := 66) rfl))) (by decide) (t := .long) (t' := .boolean) (by decide) (by decide))))
    have Fc452 := (((Fw435.other W439 (Or.inr (slot_ne (Or.inl (hw _ (List.mem_of_getElem? (i := 30) rfl))) (Or.inl (hw _ (List.mem_of_getElem? (i := 32) rfl))) (by decide) (t := .long) (t' := .long) (by decide) (by decide)))).other W443 (Or.inr (slot_ne (Or.inl (hw _ (List.mem_of_getElem? (i := 30) rfl))) (Or.inl (hw _ (List.mem_of_getElem? (i := 34) rfl))) (by decide) (t := .long) (t' := .long) (by decide) (by decide)))).other W447 (Or.inr (slot_ne (Or.inl (hw _ (List.mem_of_getElem? (i := 30) rfl))) (Or.inl (hw _ (List.mem_of_getElem? (i := 66) rfl))) (by decide) (t := .long) (t' := .boolean) (by decide) (by decide))))
    have Fc453 := ((Fw439.other W443 (Or.inr (slot_ne (Or.inl (hw _ (List.mem_of_getElem? (i := 32) rfl))) (Or.inl (hw _ (List.mem_of_getElem? (i := 34) rfl))) (by decide) (t := .long) (t' := .long) (by decide) (by decide)))).other W447 (Or.inr (slot_ne (Or.inl (hw _ (List.mem_of_getElem? (i := 32) rfl))) (Or.inl (hw _ (List.mem_of_getElem? (i := 66) rfl))) (by decide) (t := .long) (t' := .boolean) (by decide) (by decide))))
    have Fc454 := (Fw443.other W447 (Or.inr (slot_ne (Or.inl (hw _ (List.mem_of_getElem? (i := 34) rfl))) (Or.inl (hw _ (List.mem_of_getElem? (i := 66) rfl))) (by decide) (t := .long) (t' := .boolean) (by decide) (by decide))))
    obtain ⟨fs, hr, hrun, hended, hW, hsame⟩ := X447.leave (v := none) (fun _ => rfl)
    refine ⟨_, _, X447.returnOut hx Bd.returns (hb hby d3_610) hr, hrun, hended, _, _, rfl, ?_, ⟨⟨_, rfl⟩, hW, hsame.mono (by decide) (by decide)⟩⟩
    show QaddB1 Z x cn pt l0 l1 l2 l3 h0 n0 _ T447.heap _
    rw [e447]
    exact ⟨(l0 + (0 : Int64)), ((l1 + (fMag cn)) + (0 : Int64)), ((l2 + (0 : Int64)) + k420), ((l3 + (0 : Int64)) + k428), rfl, N447, ((((((Keep.refl h0 [x]).wr W431 (Or.inl (by simp))).wr W435 (Or.inl (by simp))).wr W439 (Or.inl (by simp))).wr W443 (Or.inl (by simp))).wr W447 (Or.inl (by simp))), Ec449, Fc450, Fc451, Fc452, Fc453, Fc454, Fw447, (own_add_ne0 hpos)⟩
def QaddB2 (Z : State) (x : Addr) (cn : Int64) (pt : Int64) (l0 : Int64) (l1 : Int64) (l2 : Int64) (l3 : Int64) (h0 : Heap) (n0 : Nat) (v : Option Value) (h : Heap) (L : List Loc) : Prop := ∃ (m0 : Int64), ∃ (m1 : Int64), ∃ (m2 : Int64), ∃ (m3 : Int64), v = none ∧ Fr n0 L ∧ Keep h0 h [x] ∧ (Exa Z h x "com/example/evenkeel/evenkeel/share/FlooredSum") ∧ (Fld Z h x "com/example/evenkeel/evenkeel/share/FlooredSum" "point" "J" (.long pt)) ∧ (Fld Z h x "com/example/evenkeel/evenkeel/share/FlooredSum" "limb0" "J" (.long m0)) ∧ (Fld Z h x "com/example/evenkeel/evenkeel/share/FlooredSum" "limb1" "J" (.long m1)) ∧ (Fld Z h x "com/example/evenkeel/evenkeel/share/FlooredSum" "limb2" "J" (.long m2)) ∧ (Fld Z h x "com/example/evenkeel/evenkeel/share/FlooredSum" "limb3" "J" (.long m3)) ∧ (Fld Z h x "com/example/evenkeel/evenkeel/share/FlooredSum" "known" "Z" (.int (0 : Int32))) ∧ (¬ m2 = l2)
theorem ef_addB2 (m : MethodId) (x0 : Addr) (x1 : Int64) (x2 : Int64) (x3 : Int64) (x4 : Int64) : entryFrame m #[(.ref x0), (.long x1), (.long x2), (.long x3), (.long x4)] 57 = mkF m 0 #[.val (.ref x0), sJ x1, sS, sJ x2, sS, sJ x3, sS, sJ x4, sS, sU, sU, sU, sU, sU, sU, sU, sU, sU, sU, sU, sU, sU, sU, sU, sU, sU, sU, sU, sU, sU, sU, sU, sU, sU, sU, sU, sU, sU, sU, sU, sU, sU, sU, sU, sU, sU, sU, sU, sU, sU, sU, sU, sU, sU, sU, sU, sU] [] := by first | (simp [entryFrame, mkF, argsToLocals, Value.category]; done) | rfl
set_option maxRecDepth 65536 in
set_option maxHeartbeats 40000000 in
theorem addB2 (l : Launch) (Z : State) (a0 : Array Value) (hw : ∀ d ∈ tables_1, d.before a0 Z = true) (ws : List Jvm.Cond) (x : Addr) (cn : Int64) (pt : Int64) (l0 : Int64) (l1 : Int64) (l2 : Int64) (l3 : Int64) (h0 : Heap) (n0 : Nat) (Z0 : n0 ≤ h0.size) (q0 : Exa Z h0 x "com/example/evenkeel/evenkeel/share/FlooredSum") (q1 : @LE.le Nat instLENat n0 x) (q2 : Fld Z h0 x "com/example/evenkeel/evenkeel/share/FlooredSum" "point" "J" (.long pt)) (q3 : Fld Z h0 x "com/example/evenkeel/evenkeel/share/FlooredSum" "limb0" "J" (.long l0)) (q4 : Fld Z h0 x "com/example/evenkeel/evenkeel/share/FlooredSum" "limb1" "J" (.long l1)) (q5 : Fld Z h0 x "com/example/evenkeel/evenkeel/share/FlooredSum" "limb2" "J" (.long l2)) (q6 : Fld Z h0 x "com/example/evenkeel/evenkeel/share/FlooredSum" "limb3" "J" (.long l3)) (q7 : Fld Z h0 x "com/example/evenkeel/evenkeel/share/FlooredSum" "known" "Z" (.int (0 : Int32))) (hpt : ¬ pt = (-9223372036854775808 : Int64)) (hl3 : l3 = 0 ∨ l3 = -1) (hd : ¬ cn = (0 : Int64)) (hm : 0 ≤ (fMag cn).toInt) (hpos : ¬ (fMag cn) = (0 : Int64)) (hneg : ¬ -(fMag cn) = (0 : Int64)) (hex : ¬ (pt + (64 : Int64)) < pt) :
    MetFree l (⟨"com/example/evenkeel/evenkeel/share/FlooredSum", "add", "(JJJJ)V"⟩ : MethodName) (head1 (Jvm.Cond.code (⟨"com/example/evenkeel/evenkeel/share/FlooredSum", "add", "(JJJJ)V"⟩ : MethodName) prog_96_method_10_code 57 none :: ws) ({ frames := 2, cells := 0, slots := 0, locals := 50 } : Room)) (fun a_ U_ => a_ = #[(.ref x), (.long cn), (.long (1 : Int64)), (.long (0 : Int64)), (.long (pt + (64 : Int64)))] ∧ Z.Warmed39 U_.vm ∧ U_.heap = h0) (fun _ _ _ _ _ => True) (fun _ U_ o_ V_ => ∃ v_ L_, o_ = .returned v_ ∧ QaddB2 Z x cn pt l0 l1 l2 l3 h0 n0 v_ V_.heap L_ ∧ FrameEnd U_ o_ V_ L_ ({ frames := 2, cells := 0, slots := 0, locals := 50 } : Room).cells ({ frames := 2, cells := 0, slots := 0, locals := 50 } : Room).slots) := by
  refine MetFree.of_bodySF (plainFor_of_name pn_0) hisR ?_
  intro p e s m args below meth c s₁ Bd hml0 hP hK
  obtain ⟨rfl, hZ, hh⟩ := hP
  have hx := Bd.exec
  have hby := Bd.bytes
  have hml : c.maxLocals = 57 := hml0
  have hown : s.vm.findClass "com/example/evenkeel/evenkeel/share/FlooredSum" = some m.cls := findClass_of_methodNamed Bd.named
  have hnm := (name_of_methodNamed Bd.named Bd.method).1
  have X0 : Stand p l e ({ frames := 2, cells := 0, slots := 0, locals := 50 } : Room) s m #[(.ref x), (.long cn), (.long (1 : Int64)), (.long (0 : Int64)), (.long (pt + (64 : Int64)))] below meth c s₁ [] 0 0 := Stand.of_body Bd
  have e0 : s₁.heap = h0 := by rw [← hh, Bd.state]; rfl
  have N0 := Fr.nil n0
  have lt455 := own_alt q0.lt
  have lt456 := own_alt q2.lt
  have lt457 := own_alt q3.lt
  have lt458 := own_alt q4.lt
  have lt459 := own_alt q5.lt
  have lt460 := own_alt q6.lt
  have lt461 := own_alt q7.lt
  refine Gl.go (A := s₁.setTop (entryFrame m #[(.ref x), (.long cn), (.long (1 : Int64)), (.long (0 : Int64)), (.long (pt + (64 : Int64)))] 57)) (P := fun o_ U_ => ∃ v_ L_, o_ = .returned v_ ∧ QaddB2 Z x cn pt l0 l1 l2 l3 h0 n0 v_ U_.heap L_ ∧ FrameEnd s o_ U_ L_ ({ frames := 2, cells := 0, slots := 0, locals := 50 } : Room).cells ({ frames := 2, cells := 0, slots := 0, locals := 50 } : Room).slots) (fun t_ k_ => castTop (ef_addB2 m x cn (1 : Int64) (0 : Int64) (pt + (64 : Int64))) k_) ?_
  show Gl p.tables e below _ (s₁.setTop (mkF m 0 #[.val (.ref x), sJ cn, sS, sJ 1, sS, sJ 0, sS, sJ (pt + (64 : Int64)), sS, sU, sU, sU, sU, sU, sU, sU, sU, sU, sU, sU, sU, sU, sU, sU, sU, sU, sU, sU, sU, sU, sU, sU, sU, sU, sU, sU, sU, sU, sU, sU, sU, sU, sU, sU, sU, sU, sU, sU, sU, sU, sU, sU, sU, sU, sU, sU, sU] []))
  refine Gl.go (fun _ hr => zXS_aloadN X0.here hx rfl (hb hby d3_0) rfl rfl hr) ?_
  refine gGetF (host := "") Gl.cl X0 hx hZ hown (Or.inl (hw _ (List.mem_of_getElem? (i := 14) rfl))) Via.refl e0 q2 rfl rfl (hb hby d3_1) ?_
  intro T462 X462 e462
  refine Gl.go (X462.ldc2Long hx hown (mvT hZ (hw _ (List.mem_of_getElem? (i := 13) rfl))) rfl (hb hby d3_4)) ?_
  refine Gl.go (fun _ hr => zXT_lcmp X462.here hx rfl (hb hby d3_7) rfl hr) ?_
  refine Gl.go (fun _ hr => zXS_ifYes X462.here hx rfl (pc0 := 8) (pc' := 17) rfl (hb hby d3_8) rfl (XT.ll_ne_t hpt) (by decide) (by decide) (zXT_lload X462.here hx rfl (hb hby d3_17) rfl (zXS_aloadN X462.here hx rfl (hb hby d3_19) rfl rfl hr))) ?_
  refine gGetF (host := "") Gl.cl X462 hx hZ hown (Or.inl (hw _ (List.mem_of_getElem? (i := 14) rfl))) Via.refl e462 q2 rfl rfl (hb hby d3_20) ?_
  intro T463 X463 e463
  refine Gl.go (fun _ hr => zXT_lcmp X463.here hx rfl (hb hby d3_23) rfl hr) ?_
  refine Gl.go (fun _ hr => zXS_ifYes X463.here hx rfl (pc0 := 24) (pc' := 46) rfl (hb hby d3_24) rfl (XT.ll_ge_t hex) (by decide) (by decide) (zXT_lloadN X463.here hx rfl (hb hby d3_46) rfl (zXT_lconst X463.here hx rfl (hb hby d3_47) (zXT_lcmp X463.here hx rfl (hb hby d3_48) rfl hr)))) ?_
  refine Gl.go (fun _ hr => zXS_ifNo X463.here hx rfl (hb hby d3_49) rfl (XT.ll_eq_f hd) (zXT_lloadN X463.here hx rfl (hb hby d3_52) rfl (zXT_lconst X463.here hx rfl (hb hby d3_53) (zXT_lcmp X463.here hx rfl (hb hby d3_54) rfl (zXS_ifYes X463.here hx rfl (pc0 := 55) (pc' := 66) rfl (hb hby d3_55) rfl (XT.ll_ne_t (by decide)) (by decide) (by decide) (zXT_lloadN X463.here hx rfl (hb hby d3_66) rfl hr)))))) ?_
  have zz464 : n0 ≤ h0.size := by omega
  refine gStaticN Gl.cl (y := (⟨"java/lang/Math", "abs", "(J)J"⟩ : MethodName)) (argsL := [(.long cn)]) (rest := []) (mc := 0) (ms := 0) X463 hx hZ hown (mvT hZ (hw _ (List.mem_of_getElem? (i := 35) rfl))) (mvT hZ (hw _ (List.mem_of_getElem? (i := 36) rfl))) (mvT hZ (hw _ (List.mem_of_getElem? (i := 37) rfl))) (mvT hZ (hw _ (List.mem_of_getElem? (i := 38) rfl))) (by decide) (backOf (W := 0) (absm l Z a0 hw [] cn h0 n0 zz464 ) hZ (hw _ (List.mem_of_getElem? (i := 38) rfl)) (hw _ (List.mem_of_getElem? (i := 37) rfl)) (by decide) (by decide)) rfl (by rw [hml]; rfl) (lenOf pd_3 rfl) rfl (by show 2 * 0 + _ ≤ _; exact Nat.le_of_eq rfl) (hb hby d3_67) rfl e463 (by decide) (by decide) ?_
  intro v464 T464 Lc464 hQ464 X464
  obtain ⟨rfl, Nq464, e464⟩ := hQ464
  have N464 := Fr.app N0 Nq464
  refine Gl.go (fun _ hr => zXT_lstore X464.here hx rfl (hb hby d3_70) rfl (l' := #[.val (.ref x), sJ cn, sS, sJ 1, sS, sJ 0, sS, sJ (pt + (64 : Int64)), sS, sJ (fMag cn), sS, sU, sU, sU, sU, sU, sU, sU, sU, sU, sU, sU, sU, sU, sU, sU, sU, sU, sU, sU, sU, sU, sU, sU, sU, sU, sU, sU, sU, sU, sU, sU, sU, sU, sU, sU, sU, sU, sU, sU, sU, sU, sU, sU, sU, sU, sU]) rfl (zXT_lload X464.here hx rfl (hb hby d3_72) rfl (zXT_lload X464.here hx rfl (hb hby d3_74) rfl (zXT_lmul X464.here hx rfl (hb hby d3_76) rfl hr)))) ?_
  show Gl p.tables e below _ (T464.setTop (mkF m 77 #[.val (.ref x), sJ cn, sS, sJ 1, sS, sJ 0, sS, sJ (pt + (64 : Int64)), sS, sJ (fMag cn), sS, sU, sU, sU, sU, sU, sU, sU, sU, sU, sU, sU, sU, sU, sU, sU, sU, sU, sU, sU, sU, sU, sU, sU, sU, sU, sU, sU, sU, sU, sU, sU, sU, sU, sU, sU, sU, sU, sU, sU, sU, sU, sU, sU, sU, sU, sU] [(.long ((fMag cn) * (0 : Int64)))]))
  rw [Int64.mul_zero]
  show Gl p.tables e below _ (T464.setTop (mkF m 77 #[.val (.ref x), sJ cn, sS, sJ 1, sS, sJ 0, sS, sJ (pt + (64 : Int64)), sS, sJ (fMag cn), sS, sU, sU, sU, sU, sU, sU, sU, sU, sU, sU, sU, sU, sU, sU, sU, sU, sU, sU, sU, sU, sU, sU, sU, sU, sU, sU, sU, sU, sU, sU, sU, sU, sU, sU, sU, sU, sU, sU, sU, sU, sU, sU, sU, sU, sU, sU] [(.long (0 : Int64))]))
  refine Gl.go (fun _ hr => zXT_lstore X464.here hx rfl (hb hby d3_77) rfl (l' := #[.val (.ref x), sJ cn, sS, sJ 1, sS, sJ 0, sS, sJ (pt + (64 : Int64)), sS, sJ (fMag cn), sS, sJ 0, sS, sU, sU, sU, sU, sU, sU, sU, sU, sU, sU, sU, sU, sU, sU, sU, sU, sU, sU, sU, sU, sU, sU, sU, sU, sU, sU, sU, sU, sU, sU, sU, sU, sU, sU, sU, sU, sU, sU, sU, sU, sU, sU, sU, sU]) rfl (zXT_lload X464.here hx rfl (hb hby d3_79) rfl (zXT_lload X464.here hx rfl (hb hby d3_81) rfl hr))) ?_
  have zz465 : n0 ≤ h0.size := by omega
  refine gStaticN Gl.cl (y := (⟨"com/example/evenkeel/evenkeel/share/FlooredSum", "unsignedMultiplyHigh", "(JJ)J"⟩ : MethodName)) (argsL := [(.long (fMag cn)), (.long (0 : Int64))]) (rest := []) (mc := 0) (ms := 0) X464 hx hZ hown (mvT hZ (hw _ (List.mem_of_getElem? (i := 39) rfl))) (mvT hZ (hw _ (List.mem_of_getElem? (i := 40) rfl))) (mvT hZ (hw _ (List.mem_of_getElem? (i := 6) rfl))) (mvT hZ (hw _ (List.mem_of_getElem? (i := 41) rfl))) (by decide) (backOf (W := 0) (umh l Z a0 hw [] (fMag cn) (0 : Int64) h0 n0 zz465 ) hZ (hw _ (List.mem_of_getElem? (i := 41) rfl)) (hw _ (List.mem_of_getElem? (i := 6) rfl)) (by decide) (by decide)) rfl (by rw [hml]; rfl) (lenOf pd_0 rfl) rfl (by show 2 * 0 + _ ≤ _; exact Nat.le_of_eq rfl) (hb hby d3_83) rfl e464 (by decide) (by decide) ?_
  intro v465 T465 Lc465 hQ465 X465
  obtain ⟨rfl, Nq465, e465⟩ := hQ465
  have N465 := Fr.app N464 Nq465
  show Gl p.tables e below _ (T465.setTop (mkF m 86 #[.val (.ref x), sJ cn, sS, sJ 1, sS, sJ 0, sS, sJ (pt + (64 : Int64)), sS, sJ (fMag cn), sS, sJ 0, sS, sU, sU, sU, sU, sU, sU, sU, sU, sU, sU, sU, sU, sU, sU, sU, sU, sU, sU, sU, sU, sU, sU, sU, sU, sU, sU, sU, sU, sU, sU, sU, sU, sU, sU, sU, sU, sU, sU, sU, sU, sU, sU, sU, sU] [(.long (fUMH (fMag cn) (0 : Int64)))]))
  rw [own_umh0]
  show Gl p.tables e below _ (T465.setTop (mkF m 86 #[.val (.ref x), sJ cn, sS, sJ 1, sS, sJ 0, sS, sJ (pt + (64 : Int64)), sS, sJ (fMag cn), sS, sJ 0, sS, sU, sU, sU, sU, sU, sU, sU, sU, sU, sU, sU, sU, sU, sU, sU, sU, sU, sU, sU, sU, sU, sU, sU, sU, sU, sU, sU, sU, sU, sU, sU, sU, sU, sU, sU, sU, sU, sU, sU, sU, sU, sU, sU, sU] [(.long (0 : Int64))]))
  refine Gl.go (fun _ hr => zXT_lstore X465.here hx rfl (hb hby d3_86) rfl (l' := #[.val (.ref x), sJ cn, sS, sJ 1, sS, sJ 0, sS, sJ (pt + (64 : Int64)), sS, sJ (fMag cn), sS, sJ 0, sS, sJ 0, sS, sU, sU, sU, sU, sU, sU, sU, sU, sU, sU, sU, sU, sU, sU, sU, sU, sU, sU, sU, sU, sU, sU, sU, sU, sU, sU, sU, sU, sU, sU, sU, sU, sU, sU, sU, sU, sU, sU, sU, sU, sU, sU]) rfl (zXT_lload X465.here hx rfl (hb hby d3_88) rfl (zXT_lload X465.here hx rfl (hb hby d3_90) rfl (zXT_lloadN X465.here hx rfl (hb hby d3_92) rfl (zXT_lmul X465.here hx rfl (hb hby d3_93) rfl hr))))) ?_
  show Gl p.tables e below _ (T465.setTop (mkF m 94 #[.val (.ref x), sJ cn, sS, sJ 1, sS, sJ 0, sS, sJ (pt + (64 : Int64)), sS, sJ (fMag cn), sS, sJ 0, sS, sJ 0, sS, sU, sU, sU, sU, sU, sU, sU, sU, sU, sU, sU, sU, sU, sU, sU, sU, sU, sU, sU, sU, sU, sU, sU, sU, sU, sU, sU, sU, sU, sU, sU, sU, sU, sU, sU, sU, sU, sU, sU, sU, sU, sU] [(.long ((fMag cn) * (1 : Int64))), (.long (0 : Int64))]))
  rw [Int64.mul_one]
  show Gl p.tables e below _ (T465.setTop (mkF m 94 #[.val (.ref x), sJ cn, sS, sJ 1, sS, sJ 0, sS, sJ (pt + (64 : Int64)), sS, sJ (fMag cn), sS, sJ 0, sS, sJ 0, sS, sU, sU, sU, sU, sU, sU, sU, sU, sU, sU, sU, sU, sU, sU, sU, sU, sU, sU, sU, sU, sU, sU, sU, sU, sU, sU, sU, sU, sU, sU, sU, sU, sU, sU, sU, sU, sU, sU, sU, sU, sU, sU] [(.long (fMag cn)), (.long (0 : Int64))]))
  refine Gl.go (fun _ hr => zXT_ladd X465.here hx rfl (hb hby d3_94) rfl hr) ?_
  show Gl p.tables e below _ (T465.setTop (mkF m 95 #[.val (.ref x), sJ cn, sS, sJ 1, sS, sJ 0, sS, sJ (pt + (64 : Int64)), sS, sJ (fMag cn), sS, sJ 0, sS, sJ 0, sS, sU, sU, sU, sU, sU, sU, sU, sU, sU, sU, sU, sU, sU, sU, sU, sU, sU, sU, sU, sU, sU, sU, sU, sU, sU, sU, sU, sU, sU, sU, sU, sU, sU, sU, sU, sU, sU, sU, sU, sU, sU, sU] [(.long ((0 : Int64) + (fMag cn)))]))
  rw [Int64.zero_add]
  show Gl p.tables e below _ (T465.setTop (mkF m 95 #[.val (.ref x), sJ cn, sS, sJ 1, sS, sJ 0, sS, sJ (pt + (64 : Int64)), sS, sJ (fMag cn), sS, sJ 0, sS, sJ 0, sS, sU, sU, sU, sU, sU, sU, sU, sU, sU, sU, sU, sU, sU, sU, sU, sU, sU, sU, sU, sU, sU, sU, sU, sU, sU, sU, sU, sU, sU, sU, sU, sU, sU, sU, sU, sU, sU, sU, sU, sU, sU, sU] [(.long (fMag cn))]))
  refine Gl.go (fun _ hr => zXT_lstore X465.here hx rfl (hb hby d3_95) rfl (l' := #[.val (.ref x), sJ cn, sS, sJ 1, sS, sJ 0, sS, sJ (pt + (64 : Int64)), sS, sJ (fMag cn), sS, sJ 0, sS, sJ 0, sS, sJ (fMag cn), sS, sU, sU, sU, sU, sU, sU, sU, sU, sU, sU, sU, sU, sU, sU, sU, sU, sU, sU, sU, sU, sU, sU, sU, sU, sU, sU, sU, sU, sU, sU, sU, sU, sU, sU, sU, sU, sU, sU, sU, sU]) rfl (zXT_lload X465.here hx rfl (hb hby d3_97) rfl (zXT_lloadN X465.here hx rfl (hb hby d3_99) rfl hr))) ?_
  have zz466 : n0 ≤ h0.size := by omega
  refine gStaticN Gl.cl (y := (⟨"java/lang/Math", "multiplyHigh", "(JJ)J"⟩ : MethodName)) (argsL := [(.long (fMag cn)), (.long (1 : Int64))]) (rest := []) (mc := 0) (ms := 0) X465 hx hZ hown (mvT hZ (hw _ (List.mem_of_getElem? (i := 42) rfl))) (mvT hZ (hw _ (List.mem_of_getElem? (i := 43) rfl))) (mvT hZ (hw _ (List.mem_of_getElem? (i := 37) rfl))) (mvT hZ (hw _ (List.mem_of_getElem? (i := 44) rfl))) (by decide) (backOf (W := 0) (mhm l Z a0 hw [] (fMag cn) (1 : Int64) h0 n0 zz466 ) hZ (hw _ (List.mem_of_getElem? (i := 44) rfl)) (hw _ (List.mem_of_getElem? (i := 37) rfl)) (by decide) (by decide)) rfl (by rw [hml]; rfl) (lenOf pd_0 rfl) rfl (by show 2 * 0 + _ ≤ _; exact Nat.le_of_eq rfl) (hb hby d3_100) rfl e465 (by decide) (by decide) ?_
  intro v466 T466 Lc466 hQ466 X466
  obtain ⟨rfl, Nq466, e466⟩ := hQ466
  have N466 := Fr.app N465 Nq466
  show Gl p.tables e below _ (T466.setTop (mkF m 103 #[.val (.ref x), sJ cn, sS, sJ 1, sS, sJ 0, sS, sJ (pt + (64 : Int64)), sS, sJ (fMag cn), sS, sJ 0, sS, sJ 0, sS, sJ (fMag cn), sS, sU, sU, sU, sU, sU, sU, sU, sU, sU, sU, sU, sU, sU, sU, sU, sU, sU, sU, sU, sU, sU, sU, sU, sU, sU, sU, sU, sU, sU, sU, sU, sU, sU, sU, sU, sU, sU, sU, sU, sU] [(.long (fMH (fMag cn) (1 : Int64)))]))
  rw [own_mh1 hm]
  show Gl p.tables e below _ (T466.setTop (mkF m 103 #[.val (.ref x), sJ cn, sS, sJ 1, sS, sJ 0, sS, sJ (pt + (64 : Int64)), sS, sJ (fMag cn), sS, sJ 0, sS, sJ 0, sS, sJ (fMag cn), sS, sU, sU, sU, sU, sU, sU, sU, sU, sU, sU, sU, sU, sU, sU, sU, sU, sU, sU, sU, sU, sU, sU, sU, sU, sU, sU, sU, sU, sU, sU, sU, sU, sU, sU, sU, sU, sU, sU, sU, sU] [(.long (0 : Int64))]))
  refine Gl.go (fun _ hr => zXT_lload X466.here hx rfl (hb hby d3_103) rfl (zXT_lload X466.here hx rfl (hb hby d3_105) rfl hr)) ?_
  have zz467 : n0 ≤ h0.size := by omega
  refine gStaticN Gl.cl (y := (⟨"java/lang/Long", "compareUnsigned", "(JJ)I"⟩ : MethodName)) (argsL := [(.long (fMag cn)), (.long (0 : Int64))]) (rest := [(.long (0 : Int64))]) (mc := 0) (ms := 0) X466 hx hZ hown (mvT hZ (hw _ (List.mem_of_getElem? (i := 46) rfl))) (mvT hZ (hw _ (List.mem_of_getElem? (i := 47) rfl))) (mvT hZ (hw _ (List.mem_of_getElem? (i := 48) rfl))) (mvT hZ (hw _ (List.mem_of_getElem? (i := 49) rfl))) (by decide) (backOf (W := 2) (cum l Z a0 hw [] (fMag cn) (0 : Int64) h0 n0 zz467 ) hZ (hw _ (List.mem_of_getElem? (i := 49) rfl)) (hw _ (List.mem_of_getElem? (i := 48) rfl)) (by decide) (by decide)) rfl (by rw [hml]; rfl) (lenOf pd_1 rfl) rfl (by show 2 * 0 + _ ≤ _; exact Nat.le_of_eq rfl) (hb hby d3_107) rfl e466 (by decide) (by decide) ?_
  intro v467 T467 Lc467 hQ467 X467
  obtain ⟨rfl, Nq467, e467⟩ := hQ467
  have N467 := Fr.app N466 Nq467
  refine Gl.go (fun _ hr => zXS_ifYes X467.here hx rfl (pc0 := 110) (pc' := 117) rfl (hb hby d3_110) rfl (XT.i0_ge_t (own_cu0 _)) (by decide) (by decide) (zXS_iconst X467.here hx rfl (hb hby d3_117) (zXT_i2l X467.here hx rfl (hb hby d3_118) rfl (zXT_ladd X467.here hx rfl (hb hby d3_119) rfl (zXT_lstore X467.here hx rfl (hb hby d3_120) rfl (l' := #[.val (.ref x), sJ cn, sS, sJ 1, sS, sJ 0, sS, sJ (pt + (64 : Int64)), sS, sJ (fMag cn), sS, sJ 0, sS, sJ 0, sS, sJ (fMag cn), sS, sJ 0, sS, sU, sU, sU, sU, sU, sU, sU, sU, sU, sU, sU, sU, sU, sU, sU, sU, sU, sU, sU, sU, sU, sU, sU, sU, sU, sU, sU, sU, sU, sU, sU, sU, sU, sU, sU, sU, sU, sU]) rfl (zXT_lload X467.here hx rfl (hb hby d3_122) rfl (zXS_aloadN X467.here hx rfl (hb hby d3_124) rfl rfl hr))))))) ?_
  refine gGetF (host := "") Gl.cl X467 hx hZ hown (Or.inl (hw _ (List.mem_of_getElem? (i := 14) rfl))) Via.refl e467 q2 rfl rfl (hb hby d3_125) ?_
  intro T468 X468 e468
  refine Gl.go (fun _ hr => zXT_lsub X468.here hx rfl (hb hby d3_128) rfl hr) ?_
  show Gl p.tables e below _ (T468.setTop (mkF m 129 #[.val (.ref x), sJ cn, sS, sJ 1, sS, sJ 0, sS, sJ (pt + (64 : Int64)), sS, sJ (fMag cn), sS, sJ 0, sS, sJ 0, sS, sJ (fMag cn), sS, sJ 0, sS, sU, sU, sU, sU, sU, sU, sU, sU, sU, sU, sU, sU, sU, sU, sU, sU, sU, sU, sU, sU, sU, sU, sU, sU, sU, sU, sU, sU, sU, sU, sU, sU, sU, sU, sU, sU, sU, sU] [(.long ((pt + (64 : Int64)) - pt))]))
  rw [own_addsub]
  show Gl p.tables e below _ (T468.setTop (mkF m 129 #[.val (.ref x), sJ cn, sS, sJ 1, sS, sJ 0, sS, sJ (pt + (64 : Int64)), sS, sJ (fMag cn), sS, sJ 0, sS, sJ 0, sS, sJ (fMag cn), sS, sJ 0, sS, sU, sU, sU, sU, sU, sU, sU, sU, sU, sU, sU, sU, sU, sU, sU, sU, sU, sU, sU, sU, sU, sU, sU, sU, sU, sU, sU, sU, sU, sU, sU, sU, sU, sU, sU, sU, sU, sU] [(.long (64 : Int64))]))
  refine Gl.go (fun _ hr => zXT_lstore X468.here hx rfl (hb hby d3_129) rfl (l' := #[.val (.ref x), sJ cn, sS, sJ 1, sS, sJ 0, sS, sJ (pt + (64 : Int64)), sS, sJ (fMag cn), sS, sJ 0, sS, sJ 0, sS, sJ (fMag cn), sS, sJ 0, sS, sJ 64, sS, sU, sU, sU, sU, sU, sU, sU, sU, sU, sU, sU, sU, sU, sU, sU, sU, sU, sU, sU, sU, sU, sU, sU, sU, sU, sU, sU, sU, sU, sU, sU, sU, sU, sU, sU, sU]) rfl (zXT_lload X468.here hx rfl (hb hby d3_131) rfl (zXS_sipush X468.here hx rfl (hb hby d3_133) (zXS_sipush X468.here hx rfl (hb hby d3_136) (zXT_lload X468.here hx rfl (hb hby d3_139) rfl hr))))) ?_
  have zz469 : n0 ≤ h0.size := by omega
  refine gStaticN Gl.cl (y := (⟨"java/lang/Long", "numberOfLeadingZeros", "(J)I"⟩ : MethodName)) (argsL := [(.long (0 : Int64))]) (rest := [(.int (192 : Int32)), (.int (255 : Int32)), (.long (64 : Int64))]) (mc := 0) (ms := 0) X468 hx hZ hown (mvT hZ (hw _ (List.mem_of_getElem? (i := 54) rfl))) (mvT hZ (hw _ (List.mem_of_getElem? (i := 55) rfl))) (mvT hZ (hw _ (List.mem_of_getElem? (i := 48) rfl))) (mvT hZ (hw _ (List.mem_of_getElem? (i := 56) rfl))) (by decide) (backOf (W := 4) (nlzj0 l Z a0 hw []  h0 n0 zz469 ) hZ (hw _ (List.mem_of_getElem? (i := 56) rfl)) (hw _ (List.mem_of_getElem? (i := 48) rfl)) (by decide) (by decide)) rfl (by rw [hml]; rfl) (lenOf pd_4 rfl) rfl (by show 2 * 0 + _ ≤ _; exact Nat.le_of_eq rfl) (hb hby d3_141) rfl e468 (by decide) (by decide) ?_
  intro v469 T469 Lc469 hQ469 X469
  obtain ⟨rfl, Nq469, e469⟩ := hQ469
  have N469 := Fr.app N467 Nq469
  refine Gl.go (fun _ hr => zXS_isub X469.here hx rfl (hb hby d3_144) rfl (zXS_isub X469.here hx rfl (hb hby d3_145) rfl (zXT_i2l X469.here hx rfl (hb hby d3_146) rfl (zXT_lcmp X469.here hx rfl (hb hby d3_147) rfl (zXS_ifYes X469.here hx rfl (pc0 := 148) (pc' := 161) rfl (hb hby d3_148) rfl (XT.ll_le_t (by decide)) (by decide) (by decide) (zXT_lload X469.here hx rfl (hb hby d3_161) rfl (zXS_bipush X469.here hx rfl (hb hby d3_163) (zXT_lushr X469.here hx rfl (hb hby d3_165) rfl (zXT_l2i X469.here hx rfl (hb hby d3_166) rfl (zXS_istore X469.here hx rfl (hb hby d3_167) rfl (l' := #[.val (.ref x), sJ cn, sS, sJ 1, sS, sJ 0, sS, sJ (pt + (64 : Int64)), sS, sJ (fMag cn), sS, sJ 0, sS, sJ 0, sS, sJ (fMag cn), sS, sJ 0, sS, sJ 64, sS, sI 1, sU, sU, sU, sU, sU, sU, sU, sU, sU, sU, sU, sU, sU, sU, sU, sU, sU, sU, sU, sU, sU, sU, sU, sU, sU, sU, sU, sU, sU, sU, sU, sU, sU, sU, sU]) rfl (zXT_lload X469.here hx rfl (hb hby d3_169) rfl hr))))))))))) ?_
  refine Gl.go (X469.ldc2Long hx hown (mvT hZ (hw _ (List.mem_of_getElem? (i := 61) rfl))) rfl (hb hby d3_171)) ?_
  refine Gl.go (fun _ hr => zXT_land X469.here hx rfl (hb hby d3_174) rfl (zXT_l2i X469.here hx rfl (hb hby d3_175) rfl (zXS_istore X469.here hx rfl (hb hby d3_176) rfl (l' := #[.val (.ref x), sJ cn, sS, sJ 1, sS, sJ 0, sS, sJ (pt + (64 : Int64)), sS, sJ (fMag cn), sS, sJ 0, sS, sJ 0, sS, sJ (fMag cn), sS, sJ 0, sS, sJ 64, sS, sI 1, sI 0, sU, sU, sU, sU, sU, sU, sU, sU, sU, sU, sU, sU, sU, sU, sU, sU, sU, sU, sU, sU, sU, sU, sU, sU, sU, sU, sU, sU, sU, sU, sU, sU, sU, sU]) rfl (zXT_lload X469.here hx rfl (hb hby d3_178) rfl (zXS_iload X469.here hx rfl (hb hby d3_180) rfl (zXT_lshl X469.here hx rfl (hb hby d3_182) rfl (zXT_lstore X469.here hx rfl (hb hby d3_183) rfl (l' := #[.val (.ref x), sJ cn, sS, sJ 1, sS, sJ 0, sS, sJ (pt + (64 : Int64)), sS, sJ (fMag cn), sS, sJ 0, sS, sJ 0, sS, sJ (fMag cn), sS, sJ 0, sS, sJ 64, sS, sI 1, sI 0, sJ 0, sS, sU, sU, sU, sU, sU, sU, sU, sU, sU, sU, sU, sU, sU, sU, sU, sU, sU, sU, sU, sU, sU, sU, sU, sU, sU, sU, sU, sU, sU, sU, sU, sU]) rfl (zXT_lload X469.here hx rfl (hb hby d3_185) rfl (zXS_iload X469.here hx rfl (hb hby d3_187) rfl (zXT_lshl X469.here hx rfl (hb hby d3_189) rfl hr)))))))))) ?_
  show Gl p.tables e below _ (T469.setTop (mkF m 190 #[.val (.ref x), sJ cn, sS, sJ 1, sS, sJ 0, sS, sJ (pt + (64 : Int64)), sS, sJ (fMag cn), sS, sJ 0, sS, sJ 0, sS, sJ (fMag cn), sS, sJ 0, sS, sJ 64, sS, sI 1, sI 0, sJ 0, sS, sU, sU, sU, sU, sU, sU, sU, sU, sU, sU, sU, sU, sU, sU, sU, sU, sU, sU, sU, sU, sU, sU, sU, sU, sU, sU, sU, sU, sU, sU, sU, sU] [(.long ((fMag cn) <<< ((0 : Int32).toInt64 &&& 63)))]))
  rw [own_shl0]
  show Gl p.tables e below _ (T469.setTop (mkF m 190 #[.val (.ref x), sJ cn, sS, sJ 1, sS, sJ 0, sS, sJ (pt + (64 : Int64)), sS, sJ (fMag cn), sS, sJ 0, sS, sJ 0, sS, sJ (fMag cn), sS, sJ 0, sS, sJ 64, sS, sI 1, sI 0, sJ 0, sS, sU, sU, sU, sU, sU, sU, sU, sU, sU, sU, sU, sU, sU, sU, sU, sU, sU, sU, sU, sU, sU, sU, sU, sU, sU, sU, sU, sU, sU, sU, sU, sU] [(.long (fMag cn))]))
  refine Gl.go (fun _ hr => zXS_iload X469.here hx rfl (hb hby d3_190) rfl (zXS_ifNo X469.here hx rfl (hb hby d3_192) rfl (XT.i0_ne_f (by decide)) (zXT_lconst X469.here hx rfl (hb hby d3_195) (zXS_goto X469.here hx rfl (pc0 := 196) (pc' := 207) rfl (hb hby d3_196) (by decide) (by decide) (zXT_lor X469.here hx rfl (hb hby d3_207) rfl hr))))) ?_
  show Gl p.tables e below _ (T469.setTop (mkF m 208 #[.val (.ref x), sJ cn, sS, sJ 1, sS, sJ 0, sS, sJ (pt + (64 : Int64)), sS, sJ (fMag cn), sS, sJ 0, sS, sJ 0, sS, sJ (fMag cn), sS, sJ 0, sS, sJ 64, sS, sI 1, sI 0, sJ 0, sS, sU, sU, sU, sU, sU, sU, sU, sU, sU, sU, sU, sU, sU, sU, sU, sU, sU, sU, sU, sU, sU, sU, sU, sU, sU, sU, sU, sU, sU, sU, sU, sU] [(.long ((fMag cn) ||| (0 : Int64)))]))
  rw [Int64.or_zero]
  show Gl p.tables e below _ (T469.setTop (mkF m 208 #[.val (.ref x), sJ cn, sS, sJ 1, sS, sJ 0, sS, sJ (pt + (64 : Int64)), sS, sJ (fMag cn), sS, sJ 0, sS, sJ 0, sS, sJ (fMag cn), sS, sJ 0, sS, sJ 64, sS, sI 1, sI 0, sJ 0, sS, sU, sU, sU, sU, sU, sU, sU, sU, sU, sU, sU, sU, sU, sU, sU, sU, sU, sU, sU, sU, sU, sU, sU, sU, sU, sU, sU, sU, sU, sU, sU, sU] [(.long (fMag cn))]))
  refine Gl.go (fun _ hr => zXT_lstore X469.here hx rfl (hb hby d3_208) rfl (l' := #[.val (.ref x), sJ cn, sS, sJ 1, sS, sJ 0, sS, sJ (pt + (64 : Int64)), sS, sJ (fMag cn), sS, sJ 0, sS, sJ 0, sS, sJ (fMag cn), sS, sJ 0, sS, sJ 64, sS, sI 1, sI 0, sJ 0, sS, sJ (fMag cn), sS, sU, sU, sU, sU, sU, sU, sU, sU, sU, sU, sU, sU, sU, sU, sU, sU, sU, sU, sU, sU, sU, sU, sU, sU, sU, sU, sU, sU, sU, sU]) rfl (zXT_lload X469.here hx rfl (hb hby d3_210) rfl (zXS_iload X469.here hx rfl (hb hby d3_212) rfl (zXT_lshl X469.here hx rfl (hb hby d3_214) rfl (zXS_iload X469.here hx rfl (hb hby d3_215) rfl (zXS_ifNo X469.here hx rfl (hb hby d3_217) rfl (XT.i0_ne_f (by decide)) (zXT_lconst X469.here hx rfl (hb hby d3_220) (zXS_goto X469.here hx rfl (pc0 := 221) (pc' := 232) rfl (hb hby d3_221) (by decide) (by decide) (zXT_lor X469.here hx rfl (hb hby d3_232) rfl (zXT_lstore X469.here hx rfl (hb hby d3_233) rfl (l' := #[.val (.ref x), sJ cn, sS, sJ 1, sS, sJ 0, sS, sJ (pt + (64 : Int64)), sS, sJ (fMag cn), sS, sJ 0, sS, sJ 0, sS, sJ (fMag cn), sS, sJ 0, sS, sJ 64, sS, sI 1, sI 0, sJ 0, sS, sJ (fMag cn), sS, sJ 0, sS, sU, sU, sU, sU, sU, sU, sU, sU, sU, sU, sU, sU, sU, sU, sU, sU, sU, sU, sU, sU, sU, sU, sU, sU, sU, sU, sU, sU]) rfl (zXS_iload X469.here hx rfl (hb hby d3_235) rfl (zXS_ifNo X469.here hx rfl (hb hby d3_237) rfl (XT.i0_ne_f (by decide)) (zXT_lconst X469.here hx rfl (hb hby d3_240) (zXS_goto X469.here hx rfl (pc0 := 241) (pc' := 252) rfl (hb hby d3_241) (by decide) (by decide) (zXT_lstore X469.here hx rfl (hb hby d3_252) rfl (l' := #[.val (.ref x), sJ cn, sS, sJ 1, sS, sJ 0, sS, sJ (pt + (64 : Int64)), sS, sJ (fMag cn), sS, sJ 0, sS, sJ 0, sS, sJ (fMag cn), sS, sJ 0, sS, sJ 64, sS, sI 1, sI 0, sJ 0, sS, sJ (fMag cn), sS, sJ 0, sS, sJ 0, sS, sU, sU, sU, sU, sU, sU, sU, sU, sU, sU, sU, sU, sU, sU, sU, sU, sU, sU, sU, sU, sU, sU, sU, sU, sU, sU]) rfl (zXS_iconst X469.here hx rfl (hb hby d3_254) hr)))))))))))))))) ?_
  refine Gl.go (fun _ hr => zXS_iload X469.here hx rfl (hb hby d3_255) rfl (zXT_lload X469.here hx rfl (hb hby d3_257) rfl (zXT_lload X469.here hx rfl (hb hby d3_259) rfl (zXT_lload X469.here hx rfl (hb hby d3_261) rfl (zXT_lload X469.here hx rfl (hb hby d3_263) rfl hr))))) ?_
  have zz470 : n0 ≤ h0.size := by omega
  refine gStaticN Gl.cl (y := (⟨"com/example/evenkeel/evenkeel/share/FlooredSum", "placed", "(IIJJJJ)J"⟩ : MethodName)) (argsL := [(.int (0 : Int32)), (.int (1 : Int32)), (.long (0 : Int64)), (.long (fMag cn)), (.long (0 : Int64)), (.long (0 : Int64))]) (rest := []) (mc := 0) (ms := 0) X469 hx hZ hown (mvT hZ (hw _ (List.mem_of_getElem? (i := 62) rfl))) (mvT hZ (hw _ (List.mem_of_getElem? (i := 63) rfl))) (mvT hZ (hw _ (List.mem_of_getElem? (i := 6) rfl))) (mvT hZ (hw _ (List.mem_of_getElem? (i := 64) rfl))) (by decide) (backOf (W := 0) (pl01 l Z a0 hw [] (0 : Int64) (fMag cn) (0 : Int64) (0 : Int64) h0 n0 zz470 ) hZ (hw _ (List.mem_of_getElem? (i := 64) rfl)) (hw _ (List.mem_of_getElem? (i := 6) rfl)) (by decide) (by decide)) rfl (by rw [hml]; rfl) (lenOf pd_5 rfl) rfl (by show 2 * 0 + _ ≤ _; exact Nat.le_of_eq rfl) (hb hby d3_265) rfl e469 (by decide) (by decide) ?_
  intro v470 T470 Lc470 hQ470 X470
  obtain ⟨rfl, Nq470, e470⟩ := hQ470
  have N470 := Fr.app N469 Nq470
  refine Gl.go (fun _ hr => zXT_lstore X470.here hx rfl (hb hby d3_268) rfl (l' := #[.val (.ref x), sJ cn, sS, sJ 1, sS, sJ 0, sS, sJ (pt + (64 : Int64)), sS, sJ (fMag cn), sS, sJ 0, sS, sJ 0, sS, sJ (fMag cn), sS, sJ 0, sS, sJ 64, sS, sI 1, sI 0, sJ 0, sS, sJ (fMag cn), sS, sJ 0, sS, sJ 0, sS, sJ 0, sS, sU, sU, sU, sU, sU, sU, sU, sU, sU, sU, sU, sU, sU, sU, sU, sU, sU, sU, sU, sU, sU, sU, sU, sU]) rfl (zXS_iconst X470.here hx rfl (hb hby d3_270) (zXS_iload X470.here hx rfl (hb hby d3_271) rfl (zXT_lload X470.here hx rfl (hb hby d3_273) rfl (zXT_lload X470.here hx rfl (hb hby d3_275) rfl (zXT_lload X470.here hx rfl (hb hby d3_277) rfl (zXT_lload X470.here hx rfl (hb hby d3_279) rfl hr))))))) ?_
  have zz471 : n0 ≤ h0.size := by omega
  refine gStaticN Gl.cl (y := (⟨"com/example/evenkeel/evenkeel/share/FlooredSum", "placed", "(IIJJJJ)J"⟩ : MethodName)) (argsL := [(.int (1 : Int32)), (.int (1 : Int32)), (.long (0 : Int64)), (.long (fMag cn)), (.long (0 : Int64)), (.long (0 : Int64))]) (rest := []) (mc := 0) (ms := 0) X470 hx hZ hown (mvT hZ (hw _ (List.mem_of_getElem? (i := 62) rfl))) (mvT hZ (hw _ (List.mem_of_getElem? (i := 63) rfl))) (mvT hZ (hw _ (List.mem_of_getElem? (i := 6) rfl))) (mvT hZ (hw _ (List.mem_of_getElem? (i := 64) rfl))) (by decide) (backOf (W := 0) (pl11 l Z a0 hw [] (0 : Int64) (fMag cn) (0 : Int64) (0 : Int64) h0 n0 zz471 ) hZ (hw _ (List.mem_of_getElem? (i := 64) rfl)) (hw _ (List.mem_of_getElem? (i := 6) rfl)) (by decide) (by decide)) rfl (by rw [hml]; rfl) (lenOf pd_5 rfl) rfl (by show 2 * 0 + _ ≤ _; exact Nat.le_of_eq rfl) (hb hby d3_281) rfl e470 (by decide) (by decide) ?_
  intro v471 T471 Lc471 hQ471 X471
  obtain ⟨rfl, Nq471, e471⟩ := hQ471
  have N471 := Fr.app N470 Nq471
  refine Gl.go (fun _ hr => zXT_lstore X471.here hx rfl (hb hby d3_284) rfl (l' := #[.val (.ref x), sJ cn, sS, sJ 1, sS, sJ 0, sS, sJ (pt + (64 : Int64)), sS, sJ (fMag cn), sS, sJ 0, sS, sJ 0, sS, sJ (fMag cn), sS, sJ 0, sS, sJ 64, sS, sI 1, sI 0, sJ 0, sS, sJ (fMag cn), sS, sJ 0, sS, sJ 0, sS, sJ 0, sS, sJ 0, sS, sU, sU, sU, sU, sU, sU, sU, sU, sU, sU, sU, sU, sU, sU, sU, sU, sU, sU, sU, sU, sU, sU]) rfl (zXS_iconst X471.here hx rfl (hb hby d3_286) (zXS_iload X471.here hx rfl (hb hby d3_287) rfl (zXT_lload X471.here hx rfl (hb hby d3_289) rfl (zXT_lload X471.here hx rfl (hb hby d3_291) rfl (zXT_lload X471.here hx rfl (hb hby d3_293) rfl (zXT_lload X471.here hx rfl (hb hby d3_295) rfl hr))))))) ?_
  have zz472 : n0 ≤ h0.size := by omega
  refine gStaticN Gl.cl (y := (⟨"com/example/evenkeel/evenkeel/share/FlooredSum", "placed", "(IIJJJJ)J"⟩ : MethodName)) (argsL := [(.int (2 : Int32)), (.int (1 : Int32)), (.long (0 : Int64)), (.long (fMag cn)), (.long (0 : Int64)), (.long (0 : Int64))]) (rest := []) (mc := 0) (ms := 0) X471 hx hZ hown (mvT hZ (hw _ (List.mem_of_getElem? (i := 62) rfl))) (mvT hZ (hw _ (List.mem_of_getElem? (i := 63) rfl))) (mvT hZ (hw _ (List.mem_of_getElem? (i := 6) rfl))) (mvT hZ (hw _ (List.mem_of_getElem? (i := 64) rfl))) (by decide) (backOf (W := 0) (pl21 l Z a0 hw [] (0 : Int64) (fMag cn) (0 : Int64) (0 : Int64) h0 n0 zz472 ) hZ (hw _ (List.mem_of_getElem? (i := 64) rfl)) (hw _ (List.mem_of_getElem? (i := 6) rfl)) (by decide) (by decide)) rfl (by rw [hml]; rfl) (lenOf pd_5 rfl) rfl (by show 2 * 0 + _ ≤ _; exact Nat.le_of_eq rfl) (hb hby d3_297) rfl e471 (by decide) (by decide) ?_
  intro v472 T472 Lc472 hQ472 X472
  obtain ⟨rfl, Nq472, e472⟩ := hQ472
  have N472 := Fr.app N471 Nq472
  refine Gl.go (fun _ hr => zXT_lstore X472.here hx rfl (hb hby d3_300) rfl (l' := #[.val (.ref x), sJ cn, sS, sJ 1, sS, sJ 0, sS, sJ (pt + (64 : Int64)), sS, sJ (fMag cn), sS, sJ 0, sS, sJ 0, sS, sJ (fMag cn), sS, sJ 0, sS, sJ 64, sS, sI 1, sI 0, sJ 0, sS, sJ (fMag cn), sS, sJ 0, sS, sJ 0, sS, sJ 0, sS, sJ 0, sS, sJ (fMag cn), sS, sU, sU, sU, sU, sU, sU, sU, sU, sU, sU, sU, sU, sU, sU, sU, sU, sU, sU, sU, sU]) rfl (zXS_iconst X472.here hx rfl (hb hby d3_302) (zXS_iload X472.here hx rfl (hb hby d3_303) rfl (zXT_lload X472.here hx rfl (hb hby d3_305) rfl (zXT_lload X472.here hx rfl (hb hby d3_307) rfl (zXT_lload X472.here hx rfl (hb hby d3_309) rfl (zXT_lload X472.here hx rfl (hb hby d3_311) rfl hr))))))) ?_
  have zz473 : n0 ≤ h0.size := by omega
  refine gStaticN Gl.cl (y := (⟨"com/example/evenkeel/evenkeel/share/FlooredSum", "placed", "(IIJJJJ)J"⟩ : MethodName)) (argsL := [(.int (3 : Int32)), (.int (1 : Int32)), (.long (0 : Int64)), (.long (fMag cn)), (.long (0 : Int64)), (.long (0 : Int64))]) (rest := []) (mc := 0) (ms := 0) X472 hx hZ hown (mvT hZ (hw _ (List.mem_of_getElem? (i := 62) rfl))) (mvT hZ (hw _ (List.mem_of_getElem? (i := 63) rfl))) (mvT hZ (hw _ (List.mem_of_getElem? (i := 6) rfl))) (mvT hZ (hw _ (List.mem_of_getElem? (i := 64) rfl))) (by decide) (backOf (W := 0) (pl31 l Z a0 hw [] (0 : Int64) (fMag cn) (0 : Int64) (0 : Int64) h0 n0 zz473 ) hZ (hw _ (List.mem_of_getElem? (i := 64) rfl)) (hw _ (List.mem_of_getElem? (i := 6) rfl)) (by decide) (by decide)) rfl (by rw [hml]; rfl) (lenOf pd_5 rfl) rfl (by show 2 * 0 + _ ≤ _; exact Nat.le_of_eq rfl) (hb hby d3_313) rfl e472 (by decide) (by decide) ?_
  intro v473 T473 Lc473 hQ473 X473
  obtain ⟨rfl, Nq473, e473⟩ := hQ473
  have N473 := Fr.app N472 Nq473
  refine Gl.go (fun _ hr => zXT_lstore X473.here hx rfl (hb hby d3_316) rfl (l' := #[.val (.ref x), sJ cn, sS, sJ 1, sS, sJ 0, sS, sJ (pt + (64 : Int64)), sS, sJ (fMag cn), sS, sJ 0, sS, sJ 0, sS, sJ (fMag cn), sS, sJ 0, sS, sJ 64, sS, sI 1, sI 0, sJ 0, sS, sJ (fMag cn), sS, sJ 0, sS, sJ 0, sS, sJ 0, sS, sJ 0, sS, sJ (fMag cn), sS, sJ 0, sS, sU, sU, sU, sU, sU, sU, sU, sU, sU, sU, sU, sU, sU, sU, sU, sU, sU, sU]) rfl (zXT_lloadN X473.here hx rfl (hb hby d3_318) rfl (zXT_lconst X473.here hx rfl (hb hby d3_319) (zXT_lcmp X473.here hx rfl (hb hby d3_320) rfl hr)))) ?_
  by_cases hc474 : cn < (0 : Int64)
  · refine Gl.go (fun _ hr => zXS_ifNo X473.here hx rfl (hb hby d3_321) rfl (XT.ll_ge_f hc474) (zXT_lload X473.here hx rfl (hb hby d3_324) rfl hr)) ?_
    refine Gl.go (X473.ldc2Long hx hown (mvT hZ (hw _ (List.mem_of_getElem? (i := 67) rfl))) rfl (hb hby d3_326)) ?_
    refine Gl.go (fun _ hr => zXT_lxor X473.here hx rfl (hb hby d3_329) rfl (zXT_lconst X473.here hx rfl (hb hby d3_330) (zXT_ladd X473.here hx rfl (hb hby d3_331) rfl (zXT_lstore X473.here hx rfl (hb hby d3_332) rfl (l' := #[.val (.ref x), sJ cn, sS, sJ 1, sS, sJ 0, sS, sJ (pt + (64 : Int64)), sS, sJ (fMag cn), sS, sJ 0, sS, sJ 0, sS, sJ (fMag cn), sS, sJ 0, sS, sJ 64, sS, sI 1, sI 0, sJ 0, sS, sJ (fMag cn), sS, sJ 0, sS, sJ 0, sS, sJ 0, sS, sJ 0, sS, sJ (fMag cn), sS, sJ 0, sS, sU, sU, sU, sU, sU, sU, sU, sU, sU, sU, sU, sU, sU, sU, sU, sU, sU, sU]) rfl (zXT_lload X473.here hx rfl (hb hby d3_334) rfl (zXT_lconst X473.here hx rfl (hb hby d3_336) (zXT_lcmp X473.here hx rfl (hb hby d3_337) rfl (zXS_ifNo X473.here hx rfl (hb hby d3_338) rfl (XT.ll_ne_f (by decide)) (zXT_lconst X473.here hx rfl (hb hby d3_341) (zXS_goto X473.here hx rfl (pc0 := 342) (pc' := 346) rfl (hb hby d3_342) (by decide) (by decide) (zXT_lstore X473.here hx rfl (hb hby d3_346) rfl (l' := #[.val (.ref x), sJ cn, sS, sJ 1, sS, sJ 0, sS, sJ (pt + (64 : Int64)), sS, sJ (fMag cn), sS, sJ 0, sS, sJ 0, sS, sJ (fMag cn), sS, sJ 0, sS, sJ 64, sS, sI 1, sI 0, sJ 0, sS, sJ (fMag cn), sS, sJ 0, sS, sJ 0, sS, sJ 0, sS, sJ 0, sS, sJ (fMag cn), sS, sJ 0, sS, sJ 1, sS, sU, sU, sU, sU, sU, sU, sU, sU, sU, sU, sU, sU, sU, sU, sU, sU]) rfl (zXT_lload X473.here hx rfl (hb hby d3_348) rfl hr)))))))))))) ?_
    refine Gl.go (X473.ldc2Long hx hown (mvT hZ (hw _ (List.mem_of_getElem? (i := 67) rfl))) rfl (hb hby d3_350)) ?_
    refine Gl.go (fun _ hr => zXT_lxor X473.here hx rfl (hb hby d3_353) rfl (zXT_lload X473.here hx rfl (hb hby d3_354) rfl (zXT_ladd X473.here hx rfl (hb hby d3_356) rfl (zXT_lstore X473.here hx rfl (hb hby d3_357) rfl (l' := #[.val (.ref x), sJ cn, sS, sJ 1, sS, sJ 0, sS, sJ (pt + (64 : Int64)), sS, sJ (fMag cn), sS, sJ 0, sS, sJ 0, sS, sJ (fMag cn), sS, sJ 0, sS, sJ 64, sS, sI 1, sI 0, sJ 0, sS, sJ (fMag cn), sS, sJ 0, sS, sJ 0, sS, sJ 0, sS, sJ 0, sS, sJ (fMag cn), sS, sJ 0, sS, sJ 1, sS, sU, sU, sU, sU, sU, sU, sU, sU, sU, sU, sU, sU, sU, sU, sU, sU]) rfl (zXT_lload X473.here hx rfl (hb hby d3_359) rfl (zXT_lconst X473.here hx rfl (hb hby d3_361) (zXT_lcmp X473.here hx rfl (hb hby d3_362) rfl (zXS_ifNo X473.here hx rfl (hb hby d3_363) rfl (XT.ll_ne_f (by decide)) (zXT_lload X473.here hx rfl (hb hby d3_366) rfl (zXT_lconst X473.here hx rfl (hb hby d3_368) (zXT_lcmp X473.here hx rfl (hb hby d3_369) rfl (zXS_ifNo X473.here hx rfl (hb hby d3_370) rfl (XT.ll_ne_f (by decide)) (zXT_lconst X473.here hx rfl (hb hby d3_373) (zXS_goto X473.here hx rfl (pc0 := 374) (pc' := 378) rfl (hb hby d3_374) (by decide) (by decide) (zXT_lstore X473.here hx rfl (hb hby d3_378) rfl (l' := #[.val (.ref x), sJ cn, sS, sJ 1, sS, sJ 0, sS, sJ (pt + (64 : Int64)), sS, sJ (fMag cn), sS, sJ 0, sS, sJ 0, sS, sJ (fMag cn), sS, sJ 0, sS, sJ 64, sS, sI 1, sI 0, sJ 0, sS, sJ (fMag cn), sS, sJ 0, sS, sJ 0, sS, sJ 0, sS, sJ 0, sS, sJ (fMag cn), sS, sJ 0, sS, sJ 1, sS, sJ 1, sS, sU, sU, sU, sU, sU, sU, sU, sU, sU, sU, sU, sU, sU, sU]) rfl (zXT_lload X473.here hx rfl (hb hby d3_380) rfl hr)))))))))))))))) ?_
    refine Gl.go (X473.ldc2Long hx hown (mvT hZ (hw _ (List.mem_of_getElem? (i := 67) rfl))) rfl (hb hby d3_382)) ?_
    refine Gl.go (fun _ hr => zXT_lxor X473.here hx rfl (hb hby d3_385) rfl (zXT_lload X473.here hx rfl (hb hby d3_386) rfl (zXT_ladd X473.here hx rfl (hb hby d3_388) rfl hr))) ?_
    show Gl p.tables e below _ (T473.setTop (mkF m 389 #[.val (.ref x), sJ cn, sS, sJ 1, sS, sJ 0, sS, sJ (pt + (64 : Int64)), sS, sJ (fMag cn), sS, sJ 0, sS, sJ 0, sS, sJ (fMag cn), sS, sJ 0, sS, sJ 64, sS, sI 1, sI 0, sJ 0, sS, sJ (fMag cn), sS, sJ 0, sS, sJ 0, sS, sJ 0, sS, sJ 0, sS, sJ (fMag cn), sS, sJ 0, sS, sJ 1, sS, sJ 1, sS, sU, sU, sU, sU, sU, sU, sU, sU, sU, sU, sU, sU, sU, sU] [(.long (((fMag cn) ^^^ (-1 : Int64)) + (1 : Int64)))]))
    rw [own_neg]
    show Gl p.tables e below _ (T473.setTop (mkF m 389 #[.val (.ref x), sJ cn, sS, sJ 1, sS, sJ 0, sS, sJ (pt + (64 : Int64)), sS, sJ (fMag cn), sS, sJ 0, sS, sJ 0, sS, sJ (fMag cn), sS, sJ 0, sS, sJ 64, sS, sI 1, sI 0, sJ 0, sS, sJ (fMag cn), sS, sJ 0, sS, sJ 0, sS, sJ 0, sS, sJ 0, sS, sJ (fMag cn), sS, sJ 0, sS, sJ 1, sS, sJ 1, sS, sU, sU, sU, sU, sU, sU, sU, sU, sU, sU, sU, sU, sU, sU] [(.long (-(fMag cn)))]))
    refine Gl.go (fun _ hr => zXT_lstore X473.here hx rfl (hb hby d3_389) rfl (l' := #[.val (.ref x), sJ cn, sS, sJ 1, sS, sJ 0, sS, sJ (pt + (64 : Int64)), sS, sJ (fMag cn), sS, sJ 0, sS, sJ 0, sS, sJ (fMag cn), sS, sJ 0, sS, sJ 64, sS, sI 1, sI 0, sJ 0, sS, sJ (fMag cn), sS, sJ 0, sS, sJ 0, sS, sJ 0, sS, sJ 0, sS, sJ (-(fMag cn)), sS, sJ 0, sS, sJ 1, sS, sJ 1, sS, sU, sU, sU, sU, sU, sU, sU, sU, sU, sU, sU, sU, sU, sU]) rfl (zXT_lload X473.here hx rfl (hb hby d3_391) rfl (zXT_lconst X473.here hx rfl (hb hby d3_393) (zXT_lcmp X473.here hx rfl (hb hby d3_394) rfl (zXS_ifNo X473.here hx rfl (hb hby d3_395) rfl (XT.ll_ne_f (by decide)) (zXT_lload X473.here hx rfl (hb hby d3_398) rfl (zXT_lconst X473.here hx rfl (hb hby d3_400) (zXT_lcmp X473.here hx rfl (hb hby d3_401) rfl hr)))))))) ?_
    refine Gl.go (fun _ hr => zXS_ifYes X473.here hx rfl (pc0 := 402) (pc' := 409) rfl (hb hby d3_402) rfl (XT.ll_ne_t hneg) (by decide) (by decide) (zXT_lconst X473.here hx rfl (hb hby d3_409) (zXT_lstore X473.here hx rfl (hb hby d3_410) rfl (l' := #[.val (.ref x), sJ cn, sS, sJ 1, sS, sJ 0, sS, sJ (pt + (64 : Int64)), sS, sJ (fMag cn), sS, sJ 0, sS, sJ 0, sS, sJ (fMag cn), sS, sJ 0, sS, sJ 64, sS, sI 1, sI 0, sJ 0, sS, sJ (fMag cn), sS, sJ 0, sS, sJ 0, sS, sJ 0, sS, sJ 0, sS, sJ (-(fMag cn)), sS, sJ 0, sS, sJ 1, sS, sJ 1, sS, sJ 0, sS, sU, sU, sU, sU, sU, sU, sU, sU, sU, sU, sU, sU]) rfl (zXT_lload X473.here hx rfl (hb hby d3_412) rfl hr)))) ?_
    refine Gl.go (X473.ldc2Long hx hown (mvT hZ (hw _ (List.mem_of_getElem? (i := 67) rfl))) rfl (hb hby d3_414)) ?_
    refine Gl.go (fun _ hr => zXT_lxor X473.here hx rfl (hb hby d3_417) rfl (zXT_lload X473.here hx rfl (hb hby d3_418) rfl (zXT_ladd X473.here hx rfl (hb hby d3_420) rfl (zXT_lstore X473.here hx rfl (hb hby d3_421) rfl (l' := #[.val (.ref x), sJ cn, sS, sJ 1, sS, sJ 0, sS, sJ (pt + (64 : Int64)), sS, sJ (fMag cn), sS, sJ 0, sS, sJ 0, sS, sJ (fMag cn), sS, sJ 0, sS, sJ 64, sS, sI 1, sI 0, sJ 0, sS, sJ (fMag cn), sS, sJ 0, sS, sJ 0, sS, sJ 0, sS, sJ 0, sS, sJ (-(fMag cn)), sS, sJ (-1), sS, sJ 1, sS, sJ 1, sS, sJ 0, sS, sU, sU, sU, sU, sU, sU, sU, sU, sU, sU, sU, sU]) rfl (zXS_aloadN X473.here hx rfl (hb hby d3_423) rfl rfl hr))))) ?_
    refine gGetF (host := "") Gl.cl X473 hx hZ hown (Or.inl (hw _ (List.mem_of_getElem? (i := 27) rfl))) Via.refl e473 q3 rfl rfl (hb hby d3_424) ?_
    intro T475 X475 e475
    refine Gl.go (fun _ hr => zXT_lload X475.here hx rfl (hb hby d3_427) rfl (zXT_ladd X475.here hx rfl (hb hby d3_429) rfl (zXT_lstore X475.here hx rfl (hb hby d3_430) rfl (l' := #[.val (.ref x), sJ cn, sS, sJ 1, sS, sJ 0, sS, sJ (pt + (64 : Int64)), sS, sJ (fMag cn), sS, sJ 0, sS, sJ 0, sS, sJ (fMag cn), sS, sJ 0, sS, sJ 64, sS, sI 1, sI 0, sJ 0, sS, sJ (fMag cn), sS, sJ 0, sS, sJ 0, sS, sJ 0, sS, sJ 0, sS, sJ (-(fMag cn)), sS, sJ (-1), sS, sJ (l0 + (0 : Int64)), sS, sJ 1, sS, sJ 0, sS, sU, sU, sU, sU, sU, sU, sU, sU, sU, sU, sU, sU]) rfl (zXT_lload X475.here hx rfl (hb hby d3_432) rfl (zXS_aloadN X475.here hx rfl (hb hby d3_434) rfl rfl hr))))) ?_
    refine gGetF (host := "") Gl.cl X475 hx hZ hown (Or.inl (hw _ (List.mem_of_getElem? (i := 27) rfl))) Via.refl e475 q3 rfl rfl (hb hby d3_435) ?_
    intro T476 X476 e476
    have zz477 : n0 ≤ h0.size := by omega
    refine gStaticN Gl.cl (y := (⟨"java/lang/Long", "compareUnsigned", "(JJ)I"⟩ : MethodName)) (argsL := [(.long (l0 + (0 : Int64))), (.long l0)]) (rest := []) (mc := 0) (ms := 0) X476 hx hZ hown (mvT hZ (hw _ (List.mem_of_getElem? (i := 46) rfl))) (mvT hZ (hw _ (List.mem_of_getElem? (i := 47) rfl))) (mvT hZ (hw _ (List.mem_of_getElem? (i := 48) rfl))) (mvT hZ (hw _ (List.mem_of_getElem? (i := 49) rfl))) (by decide) (backOf (W := 0) (cum l Z a0 hw [] (l0 + (0 : Int64)) l0 h0 n0 zz477 ) hZ (hw _ (List.mem_of_getElem? (i := 49) rfl)) (hw _ (List.mem_of_getElem? (i := 48) rfl)) (by decide) (by decide)) rfl (by rw [hml]; rfl) (lenOf pd_1 rfl) rfl (by show 2 * 0 + _ ≤ _; exact Nat.le_of_eq rfl) (hb hby d3_438) rfl e476 (by decide) (by decide) ?_
    intro v477 T477 Lc477 hQ477 X477
    obtain ⟨rfl, Nq477, e477⟩ := hQ477
    have N477 := Fr.app N473 Nq477
    refine Gl.go (fun _ hr => zXS_ifYes X477.here hx rfl (pc0 := 441) (pc' := 448) rfl (hb hby d3_441) rfl (XT.i0_ge_t (own_cuadd0 _)) (by decide) (by decide) (zXT_lconst X477.here hx rfl (hb hby d3_448) (zXT_lstore X477.here hx rfl (hb hby d3_449) rfl (l' := #[.val (.ref x), sJ cn, sS, sJ 1, sS, sJ 0, sS, sJ (pt + (64 : Int64)), sS, sJ (fMag cn), sS, sJ 0, sS, sJ 0, sS, sJ (fMag cn), sS, sJ 0, sS, sJ 64, sS, sI 1, sI 0, sJ 0, sS, sJ (fMag cn), sS, sJ 0, sS, sJ 0, sS, sJ 0, sS, sJ 0, sS, sJ (-(fMag cn)), sS, sJ (-1), sS, sJ (l0 + (0 : Int64)), sS, sJ 0, sS, sJ 0, sS, sU, sU, sU, sU, sU, sU, sU, sU, sU, sU, sU, sU]) rfl (zXS_aloadN X477.here hx rfl (hb hby d3_451) rfl rfl hr)))) ?_
    refine gGetF (host := "") Gl.cl X477 hx hZ hown (Or.inl (hw _ (List.mem_of_getElem? (i := 29) rfl))) Via.refl e477 q4 rfl rfl (hb hby d3_452) ?_
    intro T478 X478 e478
    refine Gl.go (fun _ hr => zXT_lload X478.here hx rfl (hb hby d3_455) rfl (zXT_ladd X478.here hx rfl (hb hby d3_457) rfl (zXT_lstore X478.here hx rfl (hb hby d3_458) rfl (l' := #[.val (.ref x), sJ cn, sS, sJ 1, sS, sJ 0, sS, sJ (pt + (64 : Int64)), sS, sJ (fMag cn), sS, sJ 0, sS, sJ 0, sS, sJ (fMag cn), sS, sJ 0, sS, sJ 64, sS, sI 1, sI 0, sJ 0, sS, sJ (fMag cn), sS, sJ 0, sS, sJ 0, sS, sJ 0, sS, sJ 0, sS, sJ (-(fMag cn)), sS, sJ (-1), sS, sJ (l0 + (0 : Int64)), sS, sJ 0, sS, sJ (l1 + (0 : Int64)), sS, sU, sU, sU, sU, sU, sU, sU, sU, sU, sU, sU, sU]) rfl (zXT_lload X478.here hx rfl (hb hby d3_460) rfl (zXT_lload X478.here hx rfl (hb hby d3_462) rfl (zXT_ladd X478.here hx rfl (hb hby d3_464) rfl (zXT_lstore X478.here hx rfl (hb hby d3_465) rfl (l' := #[.val (.ref x), sJ cn, sS, sJ 1, sS, sJ 0, sS, sJ (pt + (64 : Int64)), sS, sJ (fMag cn), sS, sJ 0, sS, sJ 0, sS, sJ (fMag cn), sS, sJ 0, sS, sJ 64, sS, sI 1, sI 0, sJ 0, sS, sJ (fMag cn), sS, sJ 0, sS, sJ 0, sS, sJ 0, sS, sJ 0, sS, sJ (-(fMag cn)), sS, sJ (-1), sS, sJ (l0 + (0 : Int64)), sS, sJ 0, sS, sJ (l1 + (0 : Int64)), sS, sJ ((l1 + (0 : Int64)) + (0 : Int64)), sS, sU, sU, sU, sU, sU, sU, sU, sU, sU, sU]) rfl (zXT_lload X478.here hx rfl (hb hby d3_467) rfl (zXS_aloadN X478.here hx rfl (hb hby d3_469) rfl rfl hr))))))))) ?_
    refine gGetF (host := "") Gl.cl X478 hx hZ hown (Or.inl (hw _ (List.mem_of_getElem? (i := 29) rfl))) Via.refl e478 q4 rfl rfl (hb hby d3_470) ?_
    intro T479 X479 e479
    have zz480 : n0 ≤ h0.size := by omega
    refine gStaticN Gl.cl (y := (⟨"java/lang/Long", "compareUnsigned", "(JJ)I"⟩ : MethodName)) (argsL := [(.long (l1 + (0 : Int64))), (.long l1)]) (rest := []) (mc := 0) (ms := 0) X479 hx hZ hown (mvT hZ (hw _ (List.mem_of_getElem? (i := 46) rfl))) (mvT hZ (hw _ (List.mem_of_getElem? (i := 47) rfl))) (mvT hZ (hw _ (List.mem_of_getElem? (i := 48) rfl))) (mvT hZ (hw _ (List.mem_of_getElem? (i := 49) rfl))) (by decide) (backOf (W := 0) (cum l Z a0 hw [] (l1 + (0 : Int64)) l1 h0 n0 zz480 ) hZ (hw _ (List.mem_of_getElem? (i := 49) rfl)) (hw _ (List.mem_of_getElem? (i := 48) rfl)) (by decide) (by decide)) rfl (by rw [hml]; rfl) (lenOf pd_1 rfl) rfl (by show 2 * 0 + _ ≤ _; exact Nat.le_of_eq rfl) (hb hby d3_473) rfl e479 (by decide) (by decide) ?_
    intro v480 T480 Lc480 hQ480 X480
    obtain ⟨rfl, Nq480, e480⟩ := hQ480
    have N480 := Fr.app N477 Nq480
    refine Gl.go (fun _ hr => zXS_ifNo X480.here hx rfl (hb hby d3_476) rfl (XT.i0_lt_f (own_cuadd0 _)) (zXT_lload X480.here hx rfl (hb hby d3_479) rfl (zXT_lload X480.here hx rfl (hb hby d3_481) rfl hr))) ?_
    have zz481 : n0 ≤ h0.size := by omega
    refine gStaticN Gl.cl (y := (⟨"java/lang/Long", "compareUnsigned", "(JJ)I"⟩ : MethodName)) (argsL := [(.long ((l1 + (0 : Int64)) + (0 : Int64))), (.long (l1 + (0 : Int64)))]) (rest := []) (mc := 0) (ms := 0) X480 hx hZ hown (mvT hZ (hw _ (List.mem_of_getElem? (i := 46) rfl))) (mvT hZ (hw _ (List.mem_of_getElem? (i := 47) rfl))) (mvT hZ (hw _ (List.mem_of_getElem? (i := 48) rfl))) (mvT hZ (hw _ (List.mem_of_getElem? (i := 49) rfl))) (by decide) (backOf (W := 0) (cum l Z a0 hw [] ((l1 + (0 : Int64)) + (0 : Int64)) (l1 + (0 : Int64)) h0 n0 zz481 ) hZ (hw _ (List.mem_of_getElem? (i := 49) rfl)) (hw _ (List.mem_of_getElem? (i := 48) rfl)) (by decide) (by decide)) rfl (by rw [hml]; rfl) (lenOf pd_1 rfl) rfl (by show 2 * 0 + _ ≤ _; exact Nat.le_of_eq rfl) (hb hby d3_483) rfl e480 (by decide) (by decide) ?_
    intro v481 T481 Lc481 hQ481 X481
    obtain ⟨rfl, Nq481, e481⟩ := hQ481
    have N481 := Fr.app N480 Nq481
    refine Gl.go (fun _ hr => zXS_ifYes X481.here hx rfl (pc0 := 486) (pc' := 493) rfl (hb hby d3_486) rfl (XT.i0_ge_t (own_cuadd0 _)) (by decide) (by decide) (zXT_lconst X481.here hx rfl (hb hby d3_493) (zXT_lstore X481.here hx rfl (hb hby d3_494) rfl (l' := #[.val (.ref x), sJ cn, sS, sJ 1, sS, sJ 0, sS, sJ (pt + (64 : Int64)), sS, sJ (fMag cn), sS, sJ 0, sS, sJ 0, sS, sJ (fMag cn), sS, sJ 0, sS, sJ 64, sS, sI 1, sI 0, sJ 0, sS, sJ (fMag cn), sS, sJ 0, sS, sJ 0, sS, sJ 0, sS, sJ 0, sS, sJ (-(fMag cn)), sS, sJ (-1), sS, sJ (l0 + (0 : Int64)), sS, sJ 0, sS, sJ (l1 + (0 : Int64)), sS, sJ ((l1 + (0 : Int64)) + (0 : Int64)), sS, sJ 0, sS, sU, sU, sU, sU, sU, sU, sU, sU]) rfl (zXS_aloadN X481.here hx rfl (hb hby d3_496) rfl rfl hr)))) ?_
    refine gGetF (host := "") Gl.cl X481 hx hZ hown (Or.inl (hw _ (List.mem_of_getElem? (i := 31) rfl))) Via.refl e481 q5 rfl rfl (hb hby d3_497) ?_
    intro T482 X482 e482
    refine Gl.go (fun _ hr => zXT_lload X482.here hx rfl (hb hby d3_500) rfl (zXT_ladd X482.here hx rfl (hb hby d3_502) rfl (zXT_lstore X482.here hx rfl (hb hby d3_503) rfl (l' := #[.val (.ref x), sJ cn, sS, sJ 1, sS, sJ 0, sS, sJ (pt + (64 : Int64)), sS, sJ (fMag cn), sS, sJ 0, sS, sJ 0, sS, sJ (fMag cn), sS, sJ 0, sS, sJ 64, sS, sI 1, sI 0, sJ 0, sS, sJ (fMag cn), sS, sJ 0, sS, sJ 0, sS, sJ 0, sS, sJ 0, sS, sJ (-(fMag cn)), sS, sJ (-1), sS, sJ (l0 + (0 : Int64)), sS, sJ 0, sS, sJ (l1 + (0 : Int64)), sS, sJ ((l1 + (0 : Int64)) + (0 : Int64)), sS, sJ 0, sS, sJ (l2 + (-(fMag cn))), sS, sU, sU, sU, sU, sU, sU]) rfl (zXT_lload X482.here hx rfl (hb hby d3_505) rfl (zXT_lload X482.here hx rfl (hb hby d3_507) rfl (zXT_ladd X482.here hx rfl (hb hby d3_509) rfl (zXT_lstore X482.here hx rfl (hb hby d3_510) rfl (l' := #[.val (.ref x), sJ cn, sS, sJ 1, sS, sJ 0, sS, sJ (pt + (64 : Int64)), sS, sJ (fMag cn), sS, sJ 0, sS, sJ 0, sS, sJ (fMag cn), sS, sJ 0, sS, sJ 64, sS, sI 1, sI 0, sJ 0, sS, sJ (fMag cn), sS, sJ 0, sS, sJ 0, sS, sJ 0, sS, sJ 0, sS, sJ (-(fMag cn)), sS, sJ (-1), sS, sJ (l0 + (0 : Int64)), sS, sJ 0, sS, sJ (l1 + (0 : Int64)), sS, sJ ((l1 + (0 : Int64)) + (0 : Int64)), sS, sJ 0, sS, sJ (l2 + (-(fMag cn))), sS, sJ ((l2 + (-(fMag cn))) + (0 : Int64)), sS, sU, sU, sU, sU]) rfl (zXT_lload X482.here hx rfl (hb hby d3_512) rfl (zXS_aloadN X482.here hx rfl (hb hby d3_514) rfl rfl hr))))))))) ?_
    refine gGetF (host := "") Gl.cl X482 hx hZ hown (Or.inl (hw _ (List.mem_of_getElem? (i := 31) rfl))) Via.refl e482 q5 rfl rfl (hb hby d3_515) ?_
    intro T483 X483 e483
    have zz484 : n0 ≤ h0.size := by omega
    refine gStaticN Gl.cl (y := (⟨"java/lang/Long", "compareUnsigned", "(JJ)I"⟩ : MethodName)) (argsL := [(.long (l2 + (-(fMag cn)))), (.long l2)]) (rest := []) (mc := 0) (ms := 0) X483 hx hZ hown (mvT hZ (hw _ (List.mem_of_getElem? (i := 46) rfl))) (mvT hZ (hw _ (List.mem_of_getElem? (i := 47) rfl))) (mvT hZ (hw _ (List.mem_of_getElem? (i := 48) rfl))) (mvT hZ (hw _ (List.mem_of_getElem? (i := 49) rfl))) (by decide) (backOf (W := 0) (cum l Z a0 hw [] (l2 + (-(fMag cn))) l2 h0 n0 zz484 ) hZ (hw _ (List.mem_of_getElem? (i := 49) rfl)) (hw _ (List.mem_of_getElem? (i := 48) rfl)) (by decide) (by decide)) rfl (by rw [hml]; rfl) (lenOf pd_1 rfl) rfl (by show 2 * 0 + _ ≤ _; exact Nat.le_of_eq rfl) (hb hby d3_518) rfl e483 (by decide) (by decide) ?_
    intro v484 T484 Lc484 hQ484 X484
    obtain ⟨rfl, Nq484, e484⟩ := hQ484
    have N484 := Fr.app N481 Nq484
    obtain ⟨T485, ⟨lc485, N485, X485, e485⟩, st485⟩ : Sg (fun U => ∃ lc, Fr n0 lc ∧ Stand p l e ({ frames := 2, cells := 0, slots := 0, locals := 50 } : Room) s m #[(.ref x), (.long cn), (.long (1 : Int64)), (.long (0 : Int64)), (.long (pt + (64 : Int64)))] below meth c U lc 0 0 ∧ U.heap = h0) (mkF m 539 #[.val (.ref x), sJ cn, sS, sJ 1, sS, sJ 0, sS, sJ (pt + (64 : Int64)), sS, sJ (fMag cn), sS, sJ 0, sS, sJ 0, sS, sJ (fMag cn), sS, sJ 0, sS, sJ 64, sS, sI 1, sI 0, sJ 0, sS, sJ (fMag cn), sS, sJ 0, sS, sJ 0, sS, sJ 0, sS, sJ 0, sS, sJ (-(fMag cn)), sS, sJ (-1), sS, sJ (l0 + (0 : Int64)), sS, sJ 0, sS, sJ (l1 + (0 : Int64)), sS, sJ ((l1 + (0 : Int64)) + (0 : Int64)), sS, sJ 0, sS, sJ (l2 + (-(fMag cn))), sS, sJ ((l2 + (-(fMag cn))) + (0 : Int64)), sS, sU, sU, sU, sU] [(.long (if cu (l2 + (-(fMag cn))) l2 < 0 ∨ cu ((l2 + (-(fMag cn))) + (0 : Int64)) (l2 + (-(fMag cn))) < 0 then (1 : Int64) else 0))]) p.tables e below (T484.setTop (mkF m 521 #[.val (.ref x), sJ cn, sS, sJ 1, sS, sJ 0, sS, sJ (pt + (64 : Int64)), sS, sJ (fMag cn), sS, sJ 0, sS, sJ 0, sS, sJ (fMag cn), sS, sJ 0, sS, sJ 64, sS, sI 1, sI 0, sJ 0, sS, sJ (fMag cn), sS, sJ 0, sS, sJ 0, sS, sJ 0, sS, sJ 0, sS, sJ (-(fMag cn)), sS, sJ (-1), sS, sJ (l0 + (0 : Int64)), sS, sJ 0, sS, sJ (l1 + (0 : Int64)), sS, sJ ((l1 + (0 : Int64)) + (0 : Int64)), sS, sJ 0, sS, sJ (l2 + (-(fMag cn))), sS, sJ ((l2 + (-(fMag cn))) + (0 : Int64)), sS, sU, sU, sU, sU] [(.int (cu (l2 + (-(fMag cn))) l2))])) := by
      by_cases hc486 : (cu (l2 + (-(fMag cn))) l2) < (0 : Int32)
      · refine Sg.go (fun _ hr => zXS_ifYes X484.here hx rfl (pc0 := 521) (pc' := 534) rfl (hb hby d3_521) rfl (XT.i0_lt_t hc486) (by decide) (by decide) (zXT_lconst X484.here hx rfl (hb hby d3_534) (zXS_goto X484.here hx rfl (pc0 := 535) (pc' := 539) rfl (hb hby d3_535) (by decide) (by decide) hr))) ?_
        show Sg _ _ p.tables e below (T484.setTop (mkF m 539 #[.val (.ref x), sJ cn, sS, sJ 1, sS, sJ 0, sS, sJ (pt + (64 : Int64)), sS, sJ (fMag cn), sS, sJ 0, sS, sJ 0, sS, sJ (fMag cn), sS, sJ 0, sS, sJ 64, sS, sI 1, sI 0, sJ 0, sS, sJ (fMag cn), sS, sJ 0, sS, sJ 0, sS, sJ 0, sS, sJ 0, sS, sJ (-(fMag cn)), sS, sJ (-1), sS, sJ (l0 + (0 : Int64)), sS, sJ 0, sS, sJ (l1 + (0 : Int64)), sS, sJ ((l1 + (0 : Int64)) + (0 : Int64)), sS, sJ 0, sS, sJ (l2 + (-(fMag cn))), sS, sJ ((l2 + (-(fMag cn))) + (0 : Int64)), sS, sU, sU, sU, sU] [(.long (1 : Int64))]))
        exact ⟨T484, ⟨_, N484, X484, e484⟩, fun _ hr => by rw [if_pos (Or.inl hc486)] at hr; exact hr⟩
      · refine Sg.go (fun _ hr => zXS_ifNo X484.here hx rfl (hb hby d3_521) rfl (XT.i0_lt_f hc486) (zXT_lload X484.here hx rfl (hb hby d3_524) rfl (zXT_lload X484.here hx rfl (hb hby d3_526) rfl hr))) ?_
        have zz487 : n0 ≤ h0.size := by omega
        refine gStaticN Sg.cl (y := (⟨"java/lang/Long", "compareUnsigned", "(JJ)I"⟩ : MethodName)) (argsL := [(.long ((l2 + (-(fMag cn))) + (0 : Int64))), (.long (l2 + (-(fMag cn))))]) (rest := []) (mc := 0) (ms := 0) X484 hx hZ hown (mvT hZ (hw _ (List.mem_of_getElem? (i := 46) rfl))) (mvT hZ (hw _ (List.mem_of_getElem? (i := 47) rfl))) (mvT hZ (hw _ (List.mem_of_getElem? (i := 48) rfl))) (mvT hZ (hw _ (List.mem_of_getElem? (i := 49) rfl))) (by decide) (backOf (W := 0) (cum l Z a0 hw [] ((l2 + (-(fMag cn))) + (0 : Int64)) (l2 + (-(fMag cn))) h0 n0 zz487 ) hZ (hw _ (List.mem_of_getElem? (i := 49) rfl)) (hw _ (List.mem_of_getElem? (i := 48) rfl)) (by decide) (by decide)) rfl (by rw [hml]; rfl) (lenOf pd_1 rfl) rfl (by show 2 * 0 + _ ≤ _; exact Nat.le_of_eq rfl) (hb hby d3_528) rfl e484 (by decide) (by decide) ?_
        intro v487 T487 Lc487 hQ487 X487
        obtain ⟨rfl, Nq487, e487⟩ := hQ487
        have N487 := Fr.app N484 Nq487
        by_cases hc488 : (cu ((l2 + (-(fMag cn))) + (0 : Int64)) (l2 + (-(fMag cn)))) < (0 : Int32)
        · refine Sg.go (fun _ hr => zXS_ifNo X487.here hx rfl (hb hby d3_531) rfl (XT.i0_ge_f hc488) (zXT_lconst X487.here hx rfl (hb hby d3_534) (zXS_goto X487.here hx rfl (pc0 := 535) (pc' := 539) rfl (hb hby d3_535) (by decide) (by decide) hr))) ?_
          show Sg _ _ p.tables e below (T487.setTop (mkF m 539 #[.val (.ref x), sJ cn, sS, sJ 1, sS, sJ 0, sS, sJ (pt + (64 : Int64)), sS, sJ (fMag cn), sS, sJ 0, sS, sJ 0, sS, sJ (fMag cn), sS, sJ 0, sS, sJ 64, sS, sI 1, sI 0, sJ 0, sS, sJ (fMag cn), sS, sJ 0, sS, sJ 0, sS, sJ 0, sS, sJ 0, sS, sJ (-(fMag cn)), sS, sJ (-1), sS, sJ (l0 + (0 : Int64)), sS, sJ 0, sS, sJ (l1 + (0 : Int64)), sS, sJ ((l1 + (0 : Int64)) + (0 : Int64)), sS, sJ 0, sS, sJ (l2 + (-(fMag cn))), sS, sJ ((l2 + (-(fMag cn))) + (0 : Int64)), sS, sU, sU, sU, sU] [(.long (1 : Int64))]))
          exact ⟨T487, ⟨_, N487, X487, e487⟩, fun _ hr => by rw [if_pos (Or.inr hc488)] at hr; exact hr⟩
        · refine Sg.go (fun _ hr => zXS_ifYes X487.here hx rfl (pc0 := 531) (pc' := 538) rfl (hb hby d3_531) rfl (XT.i0_ge_t hc488) (by decide) (by decide) (zXT_lconst X487.here hx rfl (hb hby d3_538) hr)) ?_
          show Sg _ _ p.tables e below (T487.setTop (mkF m 539 #[.val (.ref x), sJ cn, sS, sJ 1, sS, sJ 0, sS, sJ (pt + (64 : Int64)), sS, sJ (fMag cn), sS, sJ 0, sS, sJ 0, sS, sJ (fMag cn), sS, sJ 0, sS, sJ 64, sS, sI 1, sI 0, sJ 0, sS, sJ (fMag cn), sS, sJ 0, sS, sJ 0, sS, sJ 0, sS, sJ 0, sS, sJ (-(fMag cn)), sS, sJ (-1), sS, sJ (l0 + (0 : Int64)), sS, sJ 0, sS, sJ (l1 + (0 : Int64)), sS, sJ ((l1 + (0 : Int64)) + (0 : Int64)), sS, sJ 0, sS, sJ (l2 + (-(fMag cn))), sS, sJ ((l2 + (-(fMag cn))) + (0 : Int64)), sS, sU, sU, sU, sU] [(.long (0 : Int64))]))
          exact ⟨T487, ⟨_, N487, X487, e487⟩, fun _ hr => by rw [if_neg (not_or.mpr ⟨hc486, hc488⟩)] at hr; exact hr⟩
    refine Gl.go st485 ?_
    show Gl p.tables e below _ (T485.setTop (mkF m 539 #[.val (.ref x), sJ cn, sS, sJ 1, sS, sJ 0, sS, sJ (pt + (64 : Int64)), sS, sJ (fMag cn), sS, sJ 0, sS, sJ 0, sS, sJ (fMag cn), sS, sJ 0, sS, sJ 64, sS, sI 1, sI 0, sJ 0, sS, sJ (fMag cn), sS, sJ 0, sS, sJ 0, sS, sJ 0, sS, sJ 0, sS, sJ (-(fMag cn)), sS, sJ (-1), sS, sJ (l0 + (0 : Int64)), sS, sJ 0, sS, sJ (l1 + (0 : Int64)), sS, sJ ((l1 + (0 : Int64)) + (0 : Int64)), sS, sJ 0, sS, sJ (l2 + (-(fMag cn))), sS, sJ ((l2 + (-(fMag cn))) + (0 : Int64)), sS, sU, sU, sU, sU] [(.long (if cu (l2 + (-(fMag cn))) l2 < 0 ∨ cu ((l2 + (-(fMag cn))) + (0 : Int64)) (l2 + (-(fMag cn))) < 0 then (1 : Int64) else 0))]))
    obtain ⟨k489, hq_k489⟩ : ∃ q, q = (if cu (l2 + (-(fMag cn))) l2 < 0 ∨ cu ((l2 + (-(fMag cn))) + (0 : Int64)) (l2 + (-(fMag cn))) < 0 then (1 : Int64) else 0) := ⟨_, rfl⟩
    rw [← hq_k489]
    have hq_k489_ : k489 = 0 ∨ k489 = 1 := by rw [hq_k489]; exact own_k01
    show Gl p.tables e below _ (T485.setTop (mkF m 539 #[.val (.ref x), sJ cn, sS, sJ 1, sS, sJ 0, sS, sJ (pt + (64 : Int64)), sS, sJ (fMag cn), sS, sJ 0, sS, sJ 0, sS, sJ (fMag cn), sS, sJ 0, sS, sJ 64, sS, sI 1, sI 0, sJ 0, sS, sJ (fMag cn), sS, sJ 0, sS, sJ 0, sS, sJ 0, sS, sJ 0, sS, sJ (-(fMag cn)), sS, sJ (-1), sS, sJ (l0 + (0 : Int64)), sS, sJ 0, sS, sJ (l1 + (0 : Int64)), sS, sJ ((l1 + (0 : Int64)) + (0 : Int64)), sS, sJ 0, sS, sJ (l2 + (-(fMag cn))), sS, sJ ((l2 + (-(fMag cn))) + (0 : Int64)), sS, sU, sU, sU, sU] [(.long k489)]))
    refine Gl.go (fun _ hr => zXT_lstore X485.here hx rfl (hb hby d3_539) rfl (l' := #[.val (.ref x), sJ cn, sS, sJ 1, sS, sJ 0, sS, sJ (pt + (64 : Int64)), sS, sJ (fMag cn), sS, sJ 0, sS, sJ 0, sS, sJ (fMag cn), sS, sJ 0, sS, sJ 64, sS, sI 1, sI 0, sJ 0, sS, sJ (fMag cn), sS, sJ 0, sS, sJ 0, sS, sJ 0, sS, sJ 0, sS, sJ (-(fMag cn)), sS, sJ (-1), sS, sJ (l0 + (0 : Int64)), sS, sJ 0, sS, sJ (l1 + (0 : Int64)), sS, sJ ((l1 + (0 : Int64)) + (0 : Int64)), sS, sJ 0, sS, sJ (l2 + (-(fMag cn))), sS, sJ ((l2 + (-(fMag cn))) + (0 : Int64)), sS, sJ k489, sS, sU, sU]) rfl (zXS_aloadN X485.here hx rfl (hb hby d3_541) rfl rfl hr)) ?_
    refine gGetF (host := "") Gl.cl X485 hx hZ hown (Or.inl (hw _ (List.mem_of_getElem? (i := 33) rfl))) Via.refl e485 q6 rfl rfl (hb hby d3_542) ?_
    intro T490 X490 e490
    refine Gl.go (fun _ hr => zXT_lload X490.here hx rfl (hb hby d3_545) rfl (zXT_ladd X490.here hx rfl (hb hby d3_547) rfl (zXT_lload X490.here hx rfl (hb hby d3_548) rfl (zXT_ladd X490.here hx rfl (hb hby d3_550) rfl (zXT_lstore X490.here hx rfl (hb hby d3_551) rfl (l' := #[.val (.ref x), sJ cn, sS, sJ 1, sS, sJ 0, sS, sJ (pt + (64 : Int64)), sS, sJ (fMag cn), sS, sJ 0, sS, sJ 0, sS, sJ (fMag cn), sS, sJ 0, sS, sJ 64, sS, sI 1, sI 0, sJ 0, sS, sJ (fMag cn), sS, sJ 0, sS, sJ 0, sS, sJ 0, sS, sJ 0, sS, sJ (-(fMag cn)), sS, sJ (-1), sS, sJ (l0 + (0 : Int64)), sS, sJ 0, sS, sJ (l1 + (0 : Int64)), sS, sJ ((l1 + (0 : Int64)) + (0 : Int64)), sS, sJ 0, sS, sJ (l2 + (-(fMag cn))), sS, sJ ((l2 + (-(fMag cn))) + (0 : Int64)), sS, sJ k489, sS, sJ ((l3 + (-1 : Int64)) + k489), sS]) rfl (zXS_aloadN X490.here hx rfl (hb hby d3_553) rfl rfl hr)))))) ?_
    refine gGetF (host := "") Gl.cl X490 hx hZ hown (Or.inl (hw _ (List.mem_of_getElem? (i := 33) rfl))) Via.refl e490 q6 rfl rfl (hb hby d3_554) ?_
    intro T491 X491 e491
    refine Gl.go (fun _ hr => zXT_lload X491.here hx rfl (hb hby d3_557) rfl (zXT_lxor X491.here hx rfl (hb hby d3_559) rfl (zXT_lload X491.here hx rfl (hb hby d3_560) rfl (zXT_lload X491.here hx rfl (hb hby d3_562) rfl (zXT_lxor X491.here hx rfl (hb hby d3_564) rfl (zXT_land X491.here hx rfl (hb hby d3_565) rfl (zXT_lconst X491.here hx rfl (hb hby d3_566) (zXT_lcmp X491.here hx rfl (hb hby d3_567) rfl hr)))))))) ?_
    refine Gl.go (fun _ hr => zXS_ifYes X491.here hx rfl (pc0 := 568) (pc' := 581) rfl (hb hby d3_568) rfl (XT.ll_ge_t (own_ov hl3 hq_k489_ (Or.inr rfl))) (by decide) (by decide) (zXS_aloadN X491.here hx rfl (hb hby d3_581) rfl rfl (zXT_lload X491.here hx rfl (hb hby d3_582) rfl hr))) ?_
    refine gPutF (host := "") Gl.cl X491 hx hZ hown (Or.inl (hw _ (List.mem_of_getElem? (i := 27) rfl))) Via.refl e491 q3 q0 (Or.inl (hw _ (List.mem_of_getElem? (i := 28) rfl))) (hw _ (List.mem_of_getElem? (i := 5) rfl)) (ty := .long) (by decide) rfl rfl rfl rfl (hb hby d3_584) ?_
    intro T492 h492 X492 e492 W492
    have z493 : h0.size ≤ h492.size := (Keep.of_wr W492).1
    have Fw492 := q3.same W492
    have N492 := Fr.snoc X492 N485 (own_ale (by omega))
    refine Gl.go (fun _ hr => zXS_aloadN X492.here hx rfl (hb hby d3_587) rfl rfl (zXT_lload X492.here hx rfl (hb hby d3_588) rfl hr)) ?_
    have Fc494 := (q4.other W492 (Or.inr (slot_ne (Or.inl (hw _ (List.mem_of_getElem? (i := 30) rfl))) (Or.inl (hw _ (List.mem_of_getElem? (i := 28) rfl))) (by decide) (t := .long) (t' := .long) (by decide) (by decide))))
    have Ec495 := (q0.wr W492)
    refine gPutF (host := "") Gl.cl X492 hx hZ hown (Or.inl (hw _ (List.mem_of_getElem? (i := 29) rfl))) Via.refl e492 Fc494 Ec495 (Or.inl (hw _ (List.mem_of_getElem? (i := 30) rfl))) (hw _ (List.mem_of_getElem? (i := 5) rfl)) (ty := .long) (by decide) rfl rfl rfl rfl (hb hby d3_590) ?_
    intro T496 h496 X496 e496 W496
    have z497 : h492.size ≤ h496.size := (Keep.of_wr W496).1
    have Fw496 := Fc494.same W496
    have N496 := Fr.snoc X496 N492 (own_ale (by omega))
    refine Gl.go (fun _ hr => zXS_aloadN X496.here hx rfl (hb hby d3_593) rfl rfl (zXT_lload X496.here hx rfl (hb hby d3_594) rfl hr)) ?_
    have Fc498 := ((q5.other W492 (Or.inr (slot_ne (Or.inl (hw _ (List.mem_of_getElem? (i := 32) rfl))) (Or.inl (hw _ (List.mem_of_getElem? (i := 28) rfl))) (by decide) (t := .long) (t' := .long) (by decide) (by decide)))).other W496 (Or.inr (slot_ne (Or.inl (hw _ (List.mem_of_getElem? (i := 32) rfl))) (Or.inl (hw _ (List.mem_of_getElem? (i := 30) rfl))) (by decide) (t := .long) (t' := .long) (by decide) (by decide))))
    have Ec499 := (Ec495.wr W496)
    refine gPutF (host := "") Gl.cl X496 hx hZ hown (Or.inl (hw _ (List.mem_of_getElem? (i := 31) rfl))) Via.refl e496 Fc498 Ec499 (Or.inl (hw _ (List.mem_of_getElem? (i := 32) rfl))) (hw _ (List.mem_of_getElem? (i := 5) rfl)) (ty := .long) (by decide) rfl rfl rfl rfl (hb hby d3_596) ?_
    intro T500 h500 X500 e500 W500
    have z501 : h496.size ≤ h500.size := (Keep.of_wr W500).1
    have Fw500 := Fc498.same W500
    have N500 := Fr.snoc X500 N496 (own_ale (by omega))
    refine Gl.go (fun _ hr => zXS_aloadN X500.here hx rfl (hb hby d3_599) rfl rfl (zXT_lload X500.here hx rfl (hb hby d3_600) rfl hr)) ?_
    have Fc502 := (((q6.other W492 (Or.inr (slot_ne (Or.inl (hw _ (List.mem_of_getElem? (i := 34) rfl))) (Or.inl (hw _ (List.mem_of_getElem? (i := 28) rfl))) (by decide) (t := .long) (t' := .long) (by decide) (by decide)))).other W496 (Or.inr (slot_ne (Or.inl (hw _ (List.mem_of_getElem? (i := 34) rfl))) (Or.inl (hw _ (List.mem_of_getElem? (i := 30) rfl))) (by decide) (t := .long) (t' := .long) (by decide) (by decide)))).other W500 (Or.inr (slot_ne (Or.inl (hw _ (List.mem_of_getElem? (i := 34) rfl))) (Or.inl (hw _ (List.mem_of_getElem? (i := 32) rfl))) (by decide) (t := .long) (t' := .long) (by decide) (by decide))))
    have Ec503 := (Ec499.wr W500)
    refine gPutF (host := "") Gl.cl X500 hx hZ hown (Or.inl (hw _ (List.mem_of_getElem? (i := 33) rfl))) Via.refl e500 Fc502 Ec503 (Or.inl (hw _ (List.mem_of_getElem? (i := 34) rfl))) (hw _ (List.mem_of_getElem? (i := 5) rfl)) (ty := .long) (by decide) rfl rfl rfl rfl (hb hby d3_602) ?_
    intro T504 h504 X504 e504 W504
    have z505 : h500.size ≤ h504.size := (Keep.of_wr W504).1
    have Fw504 := Fc502.same W504
    have N504 := Fr.snoc X504 N500 (own_ale (by omega))
    refine Gl.go (fun _ hr => zXS_aloadN X504.here hx rfl (hb hby d3_605) rfl rfl (zXS_iconst X504.here hx rfl (hb hby d3_606) hr)) ?_
    have Fc506 := ((((q7.other W492 (Or.inr (slot_ne (Or.inl (hw _ (List.mem_of_getElem? (i := 66) rfl))) (Or.inl (hw _ (List.mem_of_getElem? (i := 28) rfl))) (by decide) (t := .boolean) (t' := .long) (by decide) (by decide)))).other W496 (Or.inr (slot_ne (Or.inl (hw _ (List.mem_of_getElem? (i := 66) rfl))) (Or.inl (hw _ (List.mem_of_getElem? (i := 30) rfl))) (by decide) (t := .boolean) (t' := .long) (by decide) (by decide)))).other W500 (Or.inr (slot_ne (Or.inl (hw _ (List.mem_of_getElem? (i := 66) rfl))) (Or.inl (hw _ (List.mem_of_getElem? (i := 32) rfl))) (by decide) (t := .boolean) (t' := .long) (by decide) (by decide)))).other W504 (Or.inr (slot_ne (Or.inl (hw _ (List.mem_of_getElem? (i := 66) rfl))) (Or.inl (hw _ (List.mem_of_getElem? (i := 34) rfl))) (by decide) (t := .boolean) (t' := .long) (by decide) (by decide))))
    have Ec507 := (Ec503.wr W504)
    refine gPutF (host := "") Gl.cl X504 hx hZ hown (Or.inl (hw _ (List.mem_of_getElem? (i := 65) rfl))) Via.refl e504 Fc506 Ec507 (Or.inl (hw _ (List.mem_of_getElem? (i := 66) rfl))) (hw _ (List.mem_of_getElem? (i := 5) rfl)) (ty := .boolean) (by decide) rfl rfl rfl rfl (hb hby d3_607) ?_
    intro T508 h508 X508 e508 W508
    have z509 : h504.size ≤ h508.size := (Keep.of_wr W508).1
    have Fw508 := Fc506.same W508
    have N508 := Fr.snoc X508 N504 (own_ale (by omega))
    have Ec510 := (Ec507.wr W508)
    have Fc511 := (((((q2.other W492 (Or.inr (slot_ne (Or.inl (hw _ (List.mem_of_getElem? (i := 15) rfl))) (Or.inl (hw _ (List.mem_of_getElem? (i := 28) rfl))) (by decide) (t := .long) (t' := .long) (by decide) (by decide)))).other W496 (Or.inr (slot_ne (Or.inl (hw _ (List.mem_of_getElem? (i := 15) rfl))) (Or.inl (hw _ (List.mem_of_getElem? (i := 30) rfl))) (by decide) (t := .long) (t' := .long) (by decide) (by decide)))).other W500 (Or.inr (slot_ne (Or.inl (hw _ (List.mem_of_getElem? (i := 15) rfl))) (Or.inl (hw _ (List.mem_of_getElem? (i := 32) rfl))) (by decide) (t := .long) (t' := .long) (by decide) (by decide)))).other W504 (Or.inr (slot_ne (Or.inl (hw _ (List.mem_of_getElem? (i := 15) rfl))) (Or.inl (hw _ (List.mem_of_getElem? (i := 34) rfl))) (by decide) (t := .long) (t' := .long) (by decide) (by decide)))).other W508 (Or.inr (slot_ne (Or.inl (hw _ (List.mem_of_getElem? (i := 15) rfl))) (Or.inl (hw _ (List.mem_of_getElem? (i := 66) rfl))) (by decide) (t := .long) (t' := .boolean) (by decide) (by decide))))
    have Fc512 := ((((Fw492.other W496 (Or.inr (slot_ne (Or.inl (hw _ (List.mem_of_getElem? (i := 28) rfl))) (Or.inl (hw _ (List.mem_of_getElem? (i := 30) rfl))) (by decide) (t := .long) (t' := .long) (by decide) (by decide)))).other W500 (Or.inr (slot_ne (Or.inl (hw _ (List.mem_of_getElem? (i := 28) rfl))) (Or.inl (hw _ (List.mem_of_getElem? (i := 32) rfl))) (by decide) (t := .long) (t' := .long) (by decide) (by decide)))).other W504 (Or.inr (slot_ne (Or.inl (hw _ (List.mem_of_getElem? (i := 28) rfl))) (Or.inl (hw _ (List.mem_of_getElem? (i := 34) rfl))) (by decide) (t := .long) (t' := .long) (by decide) (by decide)))).other W508 (Or.inr (slot_ne (Or.inl (hw _ (List.mem_of_getElem? (i := 28) rfl))) (Or.inl (hw _ (List.mem_of_getElem? (i := 66) rfl))) (by decide) (t := .long) (t' := .boolean) (by decide) (by decide))))
    have Fc513 := (((Fw496.other W500 (Or.inr (slot_ne (Or.inl (hw _ (List.mem_of_getElem? (i := 30) rfl))) (Or.inl (hw _ (List.mem_of_getElem? (i := 32) rfl))) (by decide) (t := .long) (t' := .long) (by decide) (by decide)))).other W504 (Or.inr (slot_ne (Or.inl (hw _ (List.mem_of_getElem? (i := 30) rfl))) (Or.inl (hw _ (List.mem_of_getElem? (i := 34) rfl))) (by decide) (t := .long) (t' := .long) (by decide) (by decide)))).other W508 (Or.inr (slot_ne (Or.inl (hw _ (List.mem_of_getElem? (i := 30) rfl))) (Or.inl (hw _ (List.mem_of_getElem? (i := 66) rfl))) (by decide) (t := .long) (t' := .boolean) (by decide) (by decide))))
    have Fc514 := ((Fw500.other W504 (Or.inr (slot_ne (Or.inl (hw _ (List.mem_of_getElem? (i := 32) rfl))) (Or.inl (hw _ (List.mem_of_getElem? (i := 34) rfl))) (by decide) (t := .long) (t' := .long) (by decide) (by decide)))).other W508 (Or.inr (slot_ne (Or.inl (hw _ (List.mem_of_getElem? (i := 32) rfl))) (Or.inl (hw _ (List.mem_of_getElem? (i := 66) rfl))) (by decide) (t := .long) (t' := .boolean) (by decide) (by decide))))
    have Fc515 := (Fw504.other W508 (Or.inr (slot_ne (Or.inl (hw _ (List.mem_of_getElem? (i := 34) rfl))) (Or.inl (hw _ (List.mem_of_getElem? (i := 66) rfl))) (by decide) (t := .long) (t' := .boolean) (by decide) (by decide))))
    obtain ⟨fs, hr, hrun, hended, hW, hsame⟩ := X508.leave (v := none) (fun _ => rfl)
    refine ⟨_, _, X508.returnOut hx Bd.returns (hb hby d3_610) hr, hrun, hended, _, _, rfl, ?_, ⟨⟨_, rfl⟩, hW, hsame.mono (by decide) (by decide)⟩⟩
    show QaddB2 Z x cn pt l0 l1 l2 l3 h0 n0 _ T508.heap _
    rw [e508]
    exact ⟨(l0 + (0 : Int64)), ((l1 + (0 : Int64)) + (0 : Int64)), ((l2 + (-(fMag cn))) + (0 : Int64)), ((l3 + (-1 : Int64)) + k489), rfl, N508, ((((((Keep.refl h0 [x]).wr W492 (Or.inl (by simp))).wr W496 (Or.inl (by simp))).wr W500 (Or.inl (by simp))).wr W504 (Or.inl (by simp))).wr W508 (Or.inl (by simp))), Ec510, Fc511, Fc512, Fc513, Fc514, Fc515, Fw508, (own_add_ne0 hneg)⟩
  · refine Gl.go (fun _ hr => zXS_ifYes X473.here hx rfl (pc0 := 321) (pc' := 423) rfl (hb hby d3_321) rfl (XT.ll_ge_t hc474) (by decide) (by decide) (zXS_aloadN X473.here hx rfl (hb hby d3_423) rfl rfl hr)) ?_
    refine gGetF (host := "") Gl.cl X473 hx hZ hown (Or.inl (hw _ (List.mem_of_getElem? (i := 27) rfl))) Via.refl e473 q3 rfl rfl (hb hby d3_424) ?_
    intro T516 X516 e516
    refine Gl.go (fun _ hr => zXT_lload X516.here hx rfl (hb hby d3_427) rfl (zXT_ladd X516.here hx rfl (hb hby d3_429) rfl (zXT_lstore X516.here hx rfl (hb hby d3_430) rfl (l' := #[.val (.ref x), sJ cn, sS, sJ 1, sS, sJ 0, sS, sJ (pt + (64 : Int64)), sS, sJ (fMag cn), sS, sJ 0, sS, sJ 0, sS, sJ (fMag cn), sS, sJ 0, sS, sJ 64, sS, sI 1, sI 0, sJ 0, sS, sJ (fMag cn), sS, sJ 0, sS, sJ 0, sS, sJ 0, sS, sJ 0, sS, sJ (fMag cn), sS, sJ 0, sS, sJ (l0 + (0 : Int64)), sS, sU, sU, sU, sU, sU, sU, sU, sU, sU, sU, sU, sU, sU, sU, sU, sU]) rfl (zXT_lload X516.here hx rfl (hb hby d3_432) rfl (zXS_aloadN X516.here hx rfl (hb hby d3_434) rfl rfl hr))))) ?_
    refine gGetF (host := "") Gl.cl X516 hx hZ hown (Or.inl (hw _ (List.mem_of_getElem? (i := 27) rfl))) Via.refl e516 q3 rfl rfl (hb hby d3_435) ?_
    intro T517 X517 e517
    have zz518 : n0 ≤ h0.size := by omega
    refine gStaticN Gl.cl (y := (⟨"java/lang/Long", "compareUnsigned", "(JJ)I"⟩ : MethodName)) (argsL := [(.long (l0 + (0 : Int64))), (.long l0)]) (rest := []) (mc := 0) (ms := 0) X517 hx hZ hown (mvT hZ (hw _ (List.mem_of_getElem? (i := 46) rfl))) (mvT hZ (hw _ (List.mem_of_getElem? (i := 47) rfl))) (mvT hZ (hw _ (List.mem_of_getElem? (i := 48) rfl))) (mvT hZ (hw _ (List.mem_of_getElem? (i := 49) rfl))) (by decide) (backOf (W := 0) (cum l Z a0 hw [] (l0 + (0 : Int64)) l0 h0 n0 zz518 ) hZ (hw _ (List.mem_of_getElem? (i := 49) rfl)) (hw _ (List.mem_of_getElem? (i := 48) rfl)) (by decide) (by decide)) rfl (by rw [hml]; rfl) (lenOf pd_1 rfl) rfl (by show 2 * 0 + _ ≤ _; exact Nat.le_of_eq rfl) (hb hby d3_438) rfl e517 (by decide) (by decide) ?_
    intro v518 T518 Lc518 hQ518 X518
    obtain ⟨rfl, Nq518, e518⟩ := hQ518
    have N518 := Fr.app N473 Nq518
    refine Gl.go (fun _ hr => zXS_ifYes X518.here hx rfl (pc0 := 441) (pc' := 448) rfl (hb hby d3_441) rfl (XT.i0_ge_t (own_cuadd0 _)) (by decide) (by decide) (zXT_lconst X518.here hx rfl (hb hby d3_448) (zXT_lstore X518.here hx rfl (hb hby d3_449) rfl (l' := #[.val (.ref x), sJ cn, sS, sJ 1, sS, sJ 0, sS, sJ (pt + (64 : Int64)), sS, sJ (fMag cn), sS, sJ 0, sS, sJ 0, sS, sJ (fMag cn), sS, sJ 0, sS, sJ 64, sS, sI 1, sI 0, sJ 0, sS, sJ (fMag cn), sS, sJ 0, sS, sJ 0, sS, sJ 0, sS, sJ 0, sS, sJ (fMag cn), sS, sJ 0, sS, sJ (l0 + (0 : Int64)), sS, sJ 0, sS, sU, sU, sU, sU, sU, sU, sU, sU, sU, sU, sU, sU, sU, sU]) rfl (zXS_aloadN X518.here hx rfl (hb hby d3_451) rfl rfl hr)))) ?_
    refine gGetF (host := "") Gl.cl X518 hx hZ hown (Or.inl (hw _ (List.mem_of_getElem? (i := 29) rfl))) Via.refl e518 q4 rfl rfl (hb hby d3_452) ?_
    intro T519 X519 e519
    refine Gl.go (fun _ hr => zXT_lload X519.here hx rfl (hb hby d3_455) rfl (zXT_ladd X519.here hx rfl (hb hby d3_457) rfl (zXT_lstore X519.here hx rfl (hb hby d3_458) rfl (l' := #[.val (.ref x), sJ cn, sS, sJ 1, sS, sJ 0, sS, sJ (pt + (64 : Int64)), sS, sJ (fMag cn), sS, sJ 0, sS, sJ 0, sS, sJ (fMag cn), sS, sJ 0, sS, sJ 64, sS, sI 1, sI 0, sJ 0, sS, sJ (fMag cn), sS, sJ 0, sS, sJ 0, sS, sJ 0, sS, sJ 0, sS, sJ (fMag cn), sS, sJ 0, sS, sJ (l0 + (0 : Int64)), sS, sJ 0, sS, sJ (l1 + (0 : Int64)), sS, sU, sU, sU, sU, sU, sU, sU, sU, sU, sU, sU, sU]) rfl (zXT_lload X519.here hx rfl (hb hby d3_460) rfl (zXT_lload X519.here hx rfl (hb hby d3_462) rfl (zXT_ladd X519.here hx rfl (hb hby d3_464) rfl (zXT_lstore X519.here hx rfl (hb hby d3_465) rfl (l' := #[.val (.ref x), sJ cn, sS, sJ 1, sS, sJ 0, sS, sJ (pt + (64 : Int64)), sS, sJ (fMag cn), sS, sJ 0, sS, sJ 0, sS, sJ (fMag cn), sS, sJ 0, sS, sJ 64, sS, sI 1, sI 0, sJ 0, sS, sJ (fMag cn), sS, sJ 0, sS, sJ 0, sS, sJ 0, sS, sJ 0, sS, sJ (fMag cn), sS, sJ 0, sS, sJ (l0 + (0 : Int64)), sS, sJ 0, sS, sJ (l1 + (0 : Int64)), sS, sJ ((l1 + (0 : Int64)) + (0 : Int64)), sS, sU, sU, sU, sU, sU, sU, sU, sU, sU, sU]) rfl (zXT_lload X519.here hx rfl (hb hby d3_467) rfl (zXS_aloadN X519.here hx rfl (hb hby d3_469) rfl rfl hr))))))))) ?_
    refine gGetF (host := "") Gl.cl X519 hx hZ hown (Or.inl (hw _ (List.mem_of_getElem? (i := 29) rfl))) Via.refl e519 q4 rfl rfl (hb hby d3_470) ?_
    intro T520 X520 e520
    have zz521 : n0 ≤ h0.size := by omega
    refine gStaticN Gl.cl (y := (⟨"java/lang/Long", "compareUnsigned", "(JJ)I"⟩ : MethodName)) (argsL := [(.long (l1 + (0 : Int64))), (.long l1)]) (rest := []) (mc := 0) (ms := 0) X520 hx hZ hown (mvT hZ (hw _ (List.mem_of_getElem? (i := 46) rfl))) (mvT hZ (hw _ (List.mem_of_getElem? (i := 47) rfl))) (mvT hZ (hw _ (List.mem_of_getElem? (i := 48) rfl))) (mvT hZ (hw _ (List.mem_of_getElem? (i := 49) rfl))) (by decide) (backOf (W := 0) (cum l Z a0 hw [] (l1 + (0 : Int64)) l1 h0 n0 zz521 ) hZ (hw _ (List.mem_of_getElem? (i := 49) rfl)) (hw _ (List.mem_of_getElem? (i := 48) rfl)) (by decide) (by decide)) rfl (by rw [hml]; rfl) (lenOf pd_1 rfl) rfl (by show 2 * 0 + _ ≤ _; exact Nat.le_of_eq rfl) (hb hby d3_473) rfl e520 (by decide) (by decide) ?_
    intro v521 T521 Lc521 hQ521 X521
    obtain ⟨rfl, Nq521, e521⟩ := hQ521
    have N521 := Fr.app N518 Nq521
    refine Gl.go (fun _ hr => zXS_ifNo X521.here hx rfl (hb hby d3_476) rfl (XT.i0_lt_f (own_cuadd0 _)) (zXT_lload X521.here hx rfl (hb hby d3_479) rfl (zXT_lload X521.here hx rfl (hb hby d3_481) rfl hr))) ?_
    have zz522 : n0 ≤ h0.size := by omega
    refine gStaticN Gl.cl (y := (⟨"java/lang/Long", "compareUnsigned", "(JJ)I"⟩ : MethodName)) (argsL := [(.long ((l1 + (0 : Int64)) + (0 : Int64))), (.long (l1 + (0 : Int64)))]) (rest := []) (mc := 0) (ms := 0) X521 hx hZ hown (mvT hZ (hw _ (List.mem_of_getElem? (i := 46) rfl))) (mvT hZ (hw _ (List.mem_of_getElem? (i := 47) rfl))) (mvT hZ (hw _ (List.mem_of_getElem? (i := 48) rfl))) (mvT hZ (hw _ (List.mem_of_getElem? (i := 49) rfl))) (by decide) (backOf (W := 0) (cum l Z a0 hw [] ((l1 + (0 : Int64)) + (0 : Int64)) (l1 + (0 : Int64)) h0 n0 zz522 ) hZ (hw _ (List.mem_of_getElem? (i := 49) rfl)) (hw _ (List.mem_of_getElem? (i := 48) rfl)) (by decide) (by decide)) rfl (by rw [hml]; rfl) (lenOf pd_1 rfl) rfl (by show 2 * 0 + _ ≤ _; exact Nat.le_of_eq rfl) (hb hby d3_483) rfl e521 (by decide) (by decide) ?_
    intro v522 T522 Lc522 hQ522 X522
    obtain ⟨rfl, Nq522, e522⟩ := hQ522
    have N522 := Fr.app N521 Nq522
    refine Gl.go (fun _ hr => zXS_ifYes X522.here hx rfl (pc0 := 486) (pc' := 493) rfl (hb hby d3_486) rfl (XT.i0_ge_t (own_cuadd0 _)) (by decide) (by decide) (zXT_lconst X522.here hx rfl (hb hby d3_493) (zXT_lstore X522.here hx rfl (hb hby d3_494) rfl (l' := #[.val (.ref x), sJ cn, sS, sJ 1, sS, sJ 0, sS, sJ (pt + (64 : Int64)), sS, sJ (fMag cn), sS, sJ 0, sS, sJ 0, sS, sJ (fMag cn), sS, sJ 0, sS, sJ 64, sS, sI 1, sI 0, sJ 0, sS, sJ (fMag cn), sS, sJ 0, sS, sJ 0, sS, sJ 0, sS, sJ 0, sS, sJ (fMag cn), sS, sJ 0, sS, sJ (l0 + (0 : Int64)), sS, sJ 0, sS, sJ (l1 + (0 : Int64)), sS, sJ ((l1 + (0 : Int64)) + (0 : Int64)), sS, sJ 0, sS, sU, sU, sU, sU, sU, sU, sU, sU]) rfl (zXS_aloadN X522.here hx rfl (hb hby d3_496) rfl rfl hr)))) ?_
    refine gGetF (host := "") Gl.cl X522 hx hZ hown (Or.inl (hw _ (List.mem_of_getElem? (i := 31) rfl))) Via.refl e522 q5 rfl rfl (hb hby d3_497) ?_
    intro T523 X523 e523
    refine Gl.go (fun _ hr => zXT_lload X523.here hx rfl (hb hby d3_500) rfl (zXT_ladd X523.here hx rfl (hb hby d3_502) rfl (zXT_lstore X523.here hx rfl (hb hby d3_503) rfl (l' := #[.val (.ref x), sJ cn, sS, sJ 1, sS, sJ 0, sS, sJ (pt + (64 : Int64)), sS, sJ (fMag cn), sS, sJ 0, sS, sJ 0, sS, sJ (fMag cn), sS, sJ 0, sS, sJ 64, sS, sI 1, sI 0, sJ 0, sS, sJ (fMag cn), sS, sJ 0, sS, sJ 0, sS, sJ 0, sS, sJ 0, sS, sJ (fMag cn), sS, sJ 0, sS, sJ (l0 + (0 : Int64)), sS, sJ 0, sS, sJ (l1 + (0 : Int64)), sS, sJ ((l1 + (0 : Int64)) + (0 : Int64)), sS, sJ 0, sS, sJ (l2 + (fMag cn)), sS, sU, sU, sU, sU, sU, sU]) rfl (zXT_lload X523.here hx rfl (hb hby d3_505) rfl (zXT_lload X523.here hx rfl (hb hby d3_507) rfl (zXT_ladd X523.here hx rfl (hb hby d3_509) rfl (zXT_lstore X523.here hx rfl (hb hby d3_510) rfl (l' := #[.val (.ref x), sJ cn, sS, sJ 1, sS, sJ 0, sS, sJ (pt + (64 : Int64)), sS, sJ (fMag cn), sS, sJ 0, sS, sJ 0, sS, sJ (fMag cn), sS, sJ 0, sS, sJ 64, sS, sI 1, sI 0, sJ 0, sS, sJ (fMag cn), sS, sJ 0, sS, sJ 0, sS, sJ 0, sS, sJ 0, sS, sJ (fMag cn), sS, sJ 0, sS, sJ (l0 + (0 : Int64)), sS, sJ 0, sS, sJ (l1 + (0 : Int64)), sS, sJ ((l1 + (0 : Int64)) + (0 : Int64)), sS, sJ 0, sS, sJ (l2 + (fMag cn)), sS, sJ ((l2 + (fMag cn)) + (0 : Int64)), sS, sU, sU, sU, sU]) rfl (zXT_lload X523.here hx rfl (hb hby d3_512) rfl (zXS_aloadN X523.here hx rfl (hb hby d3_514) rfl rfl hr))))))))) ?_
    refine gGetF (host := "") Gl.cl X523 hx hZ hown (Or.inl (hw _ (List.mem_of_getElem? (i := 31) rfl))) Via.refl e523 q5 rfl rfl (hb hby d3_515) ?_
    intro T524 X524 e524
    have zz525 : n0 ≤ h0.size := by omega
    refine gStaticN Gl.cl (y := (⟨"java/lang/Long", "compareUnsigned", "(JJ)I"⟩ : MethodName)) (argsL := [(.long (l2 + (fMag cn))), (.long l2)]) (rest := []) (mc := 0) (ms := 0) X524 hx hZ hown (mvT hZ (hw _ (List.mem_of_getElem? (i := 46) rfl))) (mvT hZ (hw _ (List.mem_of_getElem? (i := 47) rfl))) (mvT hZ (hw _ (List.mem_of_getElem? (i := 48) rfl))) (mvT hZ (hw _ (List.mem_of_getElem? (i := 49) rfl))) (by decide) (backOf (W := 0) (cum l Z a0 hw [] (l2 + (fMag cn)) l2 h0 n0 zz525 ) hZ (hw _ (List.mem_of_getElem? (i := 49) rfl)) (hw _ (List.mem_of_getElem? (i := 48) rfl)) (by decide) (by decide)) rfl (by rw [hml]; rfl) (lenOf pd_1 rfl) rfl (by show 2 * 0 + _ ≤ _; exact Nat.le_of_eq rfl) (hb hby d3_518) rfl e524 (by decide) (by decide) ?_
    intro v525 T525 Lc525 hQ525 X525
    obtain ⟨rfl, Nq525, e525⟩ := hQ525
    have N525 := Fr.app N522 Nq525
    obtain ⟨T526, ⟨lc526, N526, X526, e526⟩, st526⟩ : Sg (fun U => ∃ lc, Fr n0 lc ∧ Stand p l e ({ frames := 2, cells := 0, slots := 0, locals := 50 } : Room) s m #[(.ref x), (.long cn), (.long (1 : Int64)), (.long (0 : Int64)), (.long (pt + (64 : Int64)))] below meth c U lc 0 0 ∧ U.heap = h0) (mkF m 539 #[.val (.ref x), sJ cn, sS, sJ 1, sS, sJ 0, sS, sJ (pt + (64 : Int64)), sS, sJ (fMag cn), sS, sJ 0, sS, sJ 0, sS, sJ (fMag cn), sS, sJ 0, sS, sJ 64, sS, sI 1, sI 0, sJ 0, sS, sJ (fMag cn), sS, sJ 0, sS, sJ 0, sS, sJ 0, sS, sJ 0, sS, sJ (fMag cn), sS, sJ 0, sS, sJ (l0 + (0 : Int64)), sS, sJ 0, sS, sJ (l1 + (0 : Int64)), sS, sJ ((l1 + (0 : Int64)) + (0 : Int64)), sS, sJ 0, sS, sJ (l2 + (fMag cn)), sS, sJ ((l2 + (fMag cn)) + (0 : Int64)), sS, sU, sU, sU, sU] [(.long (if cu (l2 + (fMag cn)) l2 < 0 ∨ cu ((l2 + (fMag cn)) + (0 : Int64)) (l2 + (fMag cn)) < 0 then (1 : Int64) else 0))]) p.tables e below (T525.setTop (mkF m 521 #[.val (.ref x), sJ cn, sS, sJ 1, sS, sJ 0, sS, sJ (pt + (64 : Int64)), sS, sJ (fMag cn), sS, sJ 0, sS, sJ 0, sS, sJ (fMag cn), sS, sJ 0, sS, sJ 64, sS, sI 1, sI 0, sJ 0, sS, sJ (fMag cn), sS, sJ 0, sS, sJ 0, sS, sJ 0, sS, sJ 0, sS, sJ (fMag cn), sS, sJ 0, sS, sJ (l0 + (0 : Int64)), sS, sJ 0, sS, sJ (l1 + (0 : Int64)), sS, sJ ((l1 + (0 : Int64)) + (0 : Int64)), sS, sJ 0, sS, sJ (l2 + (fMag cn)), sS, sJ ((l2 + (fMag cn)) + (0 : Int64)), sS, sU, sU, sU, sU] [(.int (cu (l2 + (fMag cn)) l2))])) := by
      by_cases hc527 : (cu (l2 + (fMag cn)) l2) < (0 : Int32)
      · refine Sg.go (fun _ hr => zXS_ifYes X525.here hx rfl (pc0 := 521) (pc' := 534) rfl (hb hby d3_521) rfl (XT.i0_lt_t hc527) (by decide) (by decide) (zXT_lconst X525.here hx rfl (hb hby d3_534) (zXS_goto X525.here hx rfl (pc0 := 535) (pc' := 539) rfl (hb hby d3_535) (by decide) (by decide) hr))) ?_
        show Sg _ _ p.tables e below (T525.setTop (mkF m 539 #[.val (.ref x), sJ cn, sS, sJ 1, sS, sJ 0, sS, sJ (pt + (64 : Int64)), sS, sJ (fMag cn), sS, sJ 0, sS, sJ 0, sS, sJ (fMag cn), sS, sJ 0, sS, sJ 64, sS, sI 1, sI 0, sJ 0, sS, sJ (fMag cn), sS, sJ 0, sS, sJ 0, sS, sJ 0, sS, sJ 0, sS, sJ (fMag cn), sS, sJ 0, sS, sJ (l0 + (0 : Int64)), sS, sJ 0, sS, sJ (l1 + (0 : Int64)), sS, sJ ((l1 + (0 : Int64)) + (0 : Int64)), sS, sJ 0, sS, sJ (l2 + (fMag cn)), sS, sJ ((l2 + (fMag cn)) + (0 : Int64)), sS, sU, sU, sU, sU] [(.long (1 : Int64))]))
        exact ⟨T525, ⟨_, N525, X525, e525⟩, fun _ hr => by rw [if_pos (Or.inl hc527)] at hr; exact hr⟩
      · refine Sg.go (fun _ hr => zXS_ifNo X525.here hx rfl (hb hby d3_521) rfl (XT.i0_lt_f hc527) (zXT_lload X525.here hx rfl (hb hby d3_524) rfl (zXT_lload X525.here hx rfl (hb hby d3_526) rfl hr))) ?_
        have zz528 : n0 ≤ h0.size := by omega
        refine gStaticN Sg.cl (y := (⟨"java/lang/Long", "compareUnsigned", "(JJ)I"⟩ : MethodName)) (argsL := [(.long ((l2 + (fMag cn)) + (0 : Int64))), (.long (l2 + (fMag cn)))]) (rest := []) (mc := 0) (ms := 0) X525 hx hZ hown (mvT hZ (hw _ (List.mem_of_getElem? (i := 46) rfl))) (mvT hZ (hw _ (List.mem_of_getElem? (i := 47) rfl))) (mvT hZ (hw _ (List.mem_of_getElem? (i := 48) rfl))) (mvT hZ (hw _ (List.mem_of_getElem? (i := 49) rfl))) (by decide) (backOf (W := 0) (cum l Z a0 hw [] ((l2 + (fMag cn)) + (0 : Int64)) (l2 + (fMag cn)) h0 n0 zz528 ) hZ (hw _ (List.mem_of_getElem? (i := 49) rfl)) (hw _ (List.mem_of_getElem? (i := 48) rfl)) (by decide) (by decide)) rfl (by rw [hml]; rfl) (lenOf pd_1 rfl) rfl (by show 2 * 0 + _ ≤ _; exact Nat.le_of_eq rfl) (hb hby d3_528) rfl e525 (by decide) (by decide) ?_
        intro v528 T528 Lc528 hQ528 X528
        obtain ⟨rfl, Nq528, e528⟩ := hQ528
        have N528 := Fr.app N525 Nq528
        by_cases hc529 : (cu ((l2 + (fMag cn)) + (0 : Int64)) (l2 + (fMag cn))) < (0 : Int32)
        · refine Sg.go (fun _ hr => zXS_ifNo X528.here hx rfl (hb hby d3_531) rfl (XT.i0_ge_f hc529) (zXT_lconst X528.here hx rfl (hb hby d3_534) (zXS_goto X528.here hx rfl (pc0 := 535) (pc' := 539) rfl (hb hby d3_535) (by decide) (by decide) hr))) ?_
          show Sg _ _ p.tables e below (T528.setTop (mkF m 539 #[.val (.ref x), sJ cn, sS, sJ 1, sS, sJ 0, sS, sJ (pt + (64 : Int64)), sS, sJ (fMag cn), sS, sJ 0, sS, sJ 0, sS, sJ (fMag cn), sS, sJ 0, sS, sJ 64, sS, sI 1, sI 0, sJ 0, sS, sJ (fMag cn), sS, sJ 0, sS, sJ 0, sS, sJ 0, sS, sJ 0, sS, sJ (fMag cn), sS, sJ 0, sS, sJ (l0 + (0 : Int64)), sS, sJ 0, sS, sJ (l1 + (0 : Int64)), sS, sJ ((l1 + (0 : Int64)) + (0 : Int64)), sS, sJ 0, sS, sJ (l2 + (fMag cn)), sS, sJ ((l2 + (fMag cn)) + (0 : Int64)), sS, sU, sU, sU, sU] [(.long (1 : Int64))]))
          exact ⟨T528, ⟨_, N528, X528, e528⟩, fun _ hr => by rw [if_pos (Or.inr hc529)] at hr; exact hr⟩
        · refine Sg.go (fun _ hr => zXS_ifYes X528.here hx rfl (pc0 := 531) (pc' := 538) rfl (hb hby d3_531) rfl (XT.i0_ge_t hc529) (by decide) (by decide) (zXT_lconst X528.here hx rfl (hb hby d3_538) hr)) ?_
          show Sg _ _ p.tables e below (T528.setTop (mkF m 539 #[.val (.ref x), sJ cn, sS, sJ 1, sS, sJ 0, sS, sJ (pt + (64 : Int64)), sS, sJ (fMag cn), sS, sJ 0, sS, sJ 0, sS, sJ (fMag cn), sS, sJ 0, sS, sJ 64, sS, sI 1, sI 0, sJ 0, sS, sJ (fMag cn), sS, sJ 0, sS, sJ 0, sS, sJ 0, sS, sJ 0, sS, sJ (fMag cn), sS, sJ 0, sS, sJ (l0 + (0 : Int64)), sS, sJ 0, sS, sJ (l1 + (0 : Int64)), sS, sJ ((l1 + (0 : Int64)) + (0 : Int64)), sS, sJ 0, sS, sJ (l2 + (fMag cn)), sS, sJ ((l2 + (fMag cn)) + (0 : Int64)), sS, sU, sU, sU, sU] [(.long (0 : Int64))]))
          exact ⟨T528, ⟨_, N528, X528, e528⟩, fun _ hr => by rw [if_neg (not_or.mpr ⟨hc527, hc529⟩)] at hr; exact hr⟩
    refine Gl.go st526 ?_
    show Gl p.tables e below _ (T526.setTop (mkF m 539 #[.val (.ref x), sJ cn, sS, sJ 1, sS, sJ 0, sS, sJ (pt + (64 : Int64)), sS, sJ (fMag cn), sS, sJ 0, sS, sJ 0, sS, sJ (fMag cn), sS, sJ 0, sS, sJ 64, sS, sI 1, sI 0, sJ 0, sS, sJ (fMag cn), sS, sJ 0, sS, sJ 0, sS, sJ 0, sS, sJ 0, sS, sJ (fMag cn), sS, sJ 0, sS, sJ (l0 + (0 : Int64)), sS, sJ 0, sS, sJ (l1 + (0 : Int64)), sS, sJ ((l1 + (0 : Int64)) + (0 : Int64)), sS, sJ 0, sS, sJ (l2 + (fMag cn)), sS, sJ ((l2 + (fMag cn)) + (0 : Int64)), sS, sU, sU, sU, sU] [(.long (if cu (l2 + (fMag cn)) l2 < 0 ∨ cu ((l2 + (fMag cn)) + (0 : Int64)) (l2 + (fMag cn)) < 0 then (1 : Int64) else 0))]))
    obtain ⟨k530, hq_k530⟩ : ∃ q, q = (if cu (l2 + (fMag cn)) l2 < 0 ∨ cu ((l2 + (fMag cn)) + (0 : Int64)) (l2 + (fMag cn)) < 0 then (1 : Int64) else 0) := ⟨_, rfl⟩
    rw [← hq_k530]
    have hq_k530_ : k530 = 0 ∨ k530 = 1 := by rw [hq_k530]; exact own_k01
    show Gl p.tables e below _ (T526.setTop (mkF m 539 #[.val (.ref x), sJ cn, sS, sJ 1, sS, sJ 0, sS, sJ (pt + (64 : Int64)), sS, sJ (fMag cn), sS, sJ 0, sS, sJ 0, sS, sJ (fMag cn), sS, sJ 0, sS, sJ 64, sS, sI 1, sI 0, sJ 0, sS, sJ (fMag cn), sS, sJ 0, sS, sJ 0, sS, sJ 0, sS, sJ 0, sS, sJ (fMag cn), sS, sJ 0, sS, sJ (l0 + (0 : Int64)), sS, sJ 0, sS, sJ (l1 + (0 : Int64)), sS, sJ ((l1 + (0 : Int64)) + (0 : Int64)), sS, sJ 0, sS, sJ (l2 + (fMag cn)), sS, sJ ((l2 + (fMag cn)) + (0 : Int64)), sS, sU, sU, sU, sU] [(.long k530)]))
    refine Gl.go (fun _ hr => zXT_lstore X526.here hx rfl (hb hby d3_539) rfl (l' := #[.val (.ref x), sJ cn, sS, sJ 1, sS, sJ 0, sS, sJ (pt + (64 : Int64)), sS, sJ (fMag cn), sS, sJ 0, sS, sJ 0, sS, sJ (fMag cn), sS, sJ 0, sS, sJ 64, sS, sI 1, sI 0, sJ 0, sS, sJ (fMag cn), sS, sJ 0, sS, sJ 0, sS, sJ 0, sS, sJ 0, sS, sJ (fMag cn), sS, sJ 0, sS, sJ (l0 + (0 : Int64)), sS, sJ 0, sS, sJ (l1 + (0 : Int64)), sS, sJ ((l1 + (0 : Int64)) + (0 : Int64)), sS, sJ 0, sS, sJ (l2 + (fMag cn)), sS, sJ ((l2 + (fMag cn)) + (0 : Int64)), sS, sJ k530, sS, sU, sU]) rfl (zXS_aloadN X526.here hx rfl (hb hby d3_541) rfl rfl hr)) ?_
    refine gGetF (host := "") Gl.cl X526 hx hZ hown (Or.inl (hw _ (List.mem_of_getElem? (i := 33) rfl))) Via.refl e526 q6 rfl rfl (hb hby d3_542) ?_
    intro T531 X531 e531
    refine Gl.go (fun _ hr => zXT_lload X531.here hx rfl (hb hby d3_545) rfl (zXT_ladd X531.here hx rfl (hb hby d3_547) rfl (zXT_lload X531.here hx rfl (hb hby d3_548) rfl (zXT_ladd X531.here hx rfl (hb hby d3_550) rfl (zXT_lstore X531.here hx rfl (hb hby d3_551) rfl (l' := #[.val (.ref x), sJ cn, sS, sJ 1, sS, sJ 0, sS, sJ (pt + (64 : Int64)), sS, sJ (fMag cn), sS, sJ 0, sS, sJ 0, sS, sJ (fMag cn), sS, sJ 0, sS, sJ 64, sS, sI 1, sI 0, sJ 0, sS, sJ (fMag cn), sS, sJ 0, sS, sJ 0, sS, sJ 0, sS, sJ 0, sS, sJ (fMag cn), sS, sJ 0, sS, sJ (l0 + (0 : Int64)), sS, sJ 0, sS, sJ (l1 + (0 : Int64)), sS, sJ ((l1 + (0 : Int64)) + (0 : Int64)), sS, sJ 0, sS, sJ (l2 + (fMag cn)), sS, sJ ((l2 + (fMag cn)) + (0 : Int64)), sS, sJ k530, sS, sJ ((l3 + (0 : Int64)) + k530), sS]) rfl (zXS_aloadN X531.here hx rfl (hb hby d3_553) rfl rfl hr)))))) ?_
    refine gGetF (host := "") Gl.cl X531 hx hZ hown (Or.inl (hw _ (List.mem_of_getElem? (i := 33) rfl))) Via.refl e531 q6 rfl rfl (hb hby d3_554) ?_
    intro T532 X532 e532
    refine Gl.go (fun _ hr => zXT_lload X532.here hx rfl (hb hby d3_557) rfl (zXT_lxor X532.here hx rfl (hb hby d3_559) rfl (zXT_lload X532.here hx rfl (hb hby d3_560) rfl (zXT_lload X532.here hx rfl (hb hby d3_562) rfl (zXT_lxor X532.here hx rfl (hb hby d3_564) rfl (zXT_land X532.here hx rfl (hb hby d3_565) rfl (zXT_lconst X532.here hx rfl (hb hby d3_566) (zXT_lcmp X532.here hx rfl (hb hby d3_567) rfl hr)))))))) ?_
    refine Gl.go (fun _ hr => zXS_ifYes X532.here hx rfl (pc0 := 568) (pc' := 581) rfl (hb hby d3_568) rfl (XT.ll_ge_t (own_ov hl3 hq_k530_ (Or.inl rfl))) (by decide) (by decide) (zXS_aloadN X532.here hx rfl (hb hby d3_581) rfl rfl (zXT_lload X532.here hx rfl (hb hby d3_582) rfl hr))) ?_
    refine gPutF (host := "") Gl.cl X532 hx hZ hown (Or.inl (hw _ (List.mem_of_getElem? (i := 27) rfl))) Via.refl e532 q3 q0 (Or.inl (hw _ (List.mem_of_getElem? (i := 28) rfl))) (hw _ (List.mem_of_getElem? (i := 5) rfl)) (ty := .long) (by decide) rfl rfl rfl rfl (hb hby d3_584) ?_
    intro T533 h533 X533 e533 W533
    have z534 : h0.size ≤ h533.size := (Keep.of_wr W533).1
    have Fw533 := q3.same W533
    have N533 := Fr.snoc X533 N526 (own_ale (by omega))
    refine Gl.go (fun _ hr => zXS_aloadN X533.here hx rfl (hb hby d3_587) rfl rfl (zXT_lload X533.here hx rfl (hb hby d3_588) rfl hr)) ?_
    have Fc535 := (q4.other W533 (Or.inr (slot_ne (Or.inl (hw _ (List.mem_of_getElem? (i := 30) rfl))) (Or.inl (hw _ (List.mem_of_getElem? (i := 28) rfl))) (by decide) (t := .long) (t' := .long) (by decide) (by decide))))
    have Ec536 := (q0.wr W533)
    refine gPutF (host := "") Gl.cl X533 hx hZ hown (Or.inl (hw _ (List.mem_of_getElem? (i := 29) rfl))) Via.refl e533 Fc535 Ec536 (Or.inl (hw _ (List.mem_of_getElem? (i := 30) rfl))) (hw _ (List.mem_of_getElem? (i := 5) rfl)) (ty := .long) (by decide) rfl rfl rfl rfl (hb hby d3_590) ?_
    intro T537 h537 X537 e537 W537
    have z538 : h533.size ≤ h537.size := (Keep.of_wr W537).1
    have Fw537 := Fc535.same W537
    have N537 := Fr.snoc X537 N533 (own_ale (by omega))
    refine Gl.go (fun _ hr => zXS_aloadN X537.here hx rfl (hb hby d3_593) rfl rfl (zXT_lload X537.here hx rfl (hb hby d3_594) rfl hr)) ?_
    have Fc539 := ((q5.other W533 (Or.inr (slot_ne (Or.inl (hw _ (List.mem_of_getElem? (i := 32) rfl))) (Or.inl (hw _ (List.mem_of_getElem? (i := 28) rfl))) (by decide) (t := .long) (t' := .long) (by decide) (by decide)))).other W537 (Or.inr (slot_ne (Or.inl (hw _ (List.mem_of_getElem? (i := 32) rfl))) (Or.inl (hw _ (List.mem_of_getElem? (i := 30) rfl))) (by decide) (t := .long) (t' := .long) (by decide) (by decide))))
    have Ec540 := (Ec536.wr W537)
    refine gPutF (host := "") Gl.cl X537 hx hZ hown (Or.inl (hw _ (List.mem_of_getElem? (i := 31) rfl))) Via.refl e537 Fc539 Ec540 (Or.inl (hw _ (List.mem_of_getElem? (i := 32) rfl))) (hw _ (List.mem_of_getElem? (i := 5) rfl)) (ty := .long) (by decide) rfl rfl rfl rfl (hb hby d3_596) ?_
    intro T541 h541 X541 e541 W541
    have z542 : h537.size ≤ h541.size := (Keep.of_wr W541).1
    have Fw541 := Fc539.same W541
    have N541 := Fr.snoc X541 N537 (own_ale (by omega))
    refine Gl.go (fun _ hr => zXS_aloadN X541.here hx rfl (hb hby d3_599) rfl rfl (zXT_lload X541.here hx rfl (hb hby d3_600) rfl hr)) ?_
    have Fc543 := (((q6.other W533 (Or.inr (slot_ne (Or.inl (hw _ (List.mem_of_getElem? (i := 34) rfl))) (Or.inl (hw _ (List.mem_of_getElem? (i := 28) rfl))) (by decide) (t := .long) (t' := .long) (by decide) (by decide)))).other W537 (Or.inr (slot_ne (Or.inl (hw _ (List.mem_of_getElem? (i := 34) rfl))) (Or.inl (hw _ (List.mem_of_getElem? (i := 30) rfl))) (by decide) (t := .long) (t' := .long) (by decide) (by decide)))).other W541 (Or.inr (slot_ne (Or.inl (hw _ (List.mem_of_getElem? (i := 34) rfl))) (Or.inl (hw _ (List.mem_of_getElem? (i := 32) rfl))) (by decide) (t := .long) (t' := .long) (by decide) (by decide))))
    have Ec544 := (Ec540.wr W541)
    refine gPutF (host := "") Gl.cl X541 hx hZ hown (Or.inl (hw _ (List.mem_of_getElem? (i := 33) rfl))) Via.refl e541 Fc543 Ec544 (Or.inl (hw _ (List.mem_of_getElem? (i := 34) rfl))) (hw _ (List.mem_of_getElem? (i := 5) rfl)) (ty := .long) (by decide) rfl rfl rfl rfl (hb hby d3_602) ?_
    intro T545 h545 X545 e545 W545
    have z546 : h541.size ≤ h545.size := (Keep.of_wr W545).1
    have Fw545 := Fc543.same W545
    have N545 := Fr.snoc X545 N541 (own_ale (by omega))
    refine Gl.go (fun _ hr => zXS_aloadN X545.here hx rfl (hb hby d3_605) rfl rfl (zXS_iconst X545.here hx rfl (hb hby d3_606) hr)) ?_
    have Fc547 := ((((q7.other W533 (Or.inr (slot_ne (Or.inl (hw _ (List.mem_of_getElem? (i := 66) rfl))) (Or.inl (hw _ (List.mem_of_getElem? (i := 28) rfl))) (by decide) (t := .boolean) (t' := .long) (by decide) (by decide)))).other W537 (Or.inr (slot_ne (Or.inl (hw _ (List.mem_of_getElem? (i := 66) rfl))) (Or.inl (hw _ (List.mem_of_getElem? (i := 30) rfl))) (by decide) (t := .boolean) (t' := .long) (by decide) (by decide)))).other W541 (Or.inr (slot_ne (Or.inl (hw _ (List.mem_of_getElem? (i := 66) rfl))) (Or.inl (hw _ (List.mem_of_getElem? (i := 32) rfl))) (by decide) (t := .boolean) (t' := .long) (by decide) (by decide)))).other W545 (Or.inr (slot_ne (Or.inl (hw _ (List.mem_of_getElem? (i := 66) rfl))) (Or.inl (hw _ (List.mem_of_getElem? (i := 34) rfl))) (by decide) (t := .boolean) (t' := .long) (by decide) (by decide))))
    have Ec548 := (Ec544.wr W545)
    refine gPutF (host := "") Gl.cl X545 hx hZ hown (Or.inl (hw _ (List.mem_of_getElem? (i := 65) rfl))) Via.refl e545 Fc547 Ec548 (Or.inl (hw _ (List.mem_of_getElem? (i := 66) rfl))) (hw _ (List.mem_of_getElem? (i := 5) rfl)) (ty := .boolean) (by decide) rfl rfl rfl rfl (hb hby d3_607) ?_
    intro T549 h549 X549 e549 W549
    have z550 : h545.size ≤ h549.size := (Keep.of_wr W549).1
    have Fw549 := Fc547.same W549
    have N549 := Fr.snoc X549 N545 (own_ale (by omega))
    have Ec551 := (Ec548.wr W549)
    have Fc552 := (((((q2.other W533 (Or.inr (slot_ne (Or.inl (hw _ (List.mem_of_getElem? (i := 15) rfl))) (Or.inl (hw _ (List.mem_of_getElem? (i := 28) rfl))) (by decide) (t := .long) (t' := .long) (by decide) (by decide)))).other W537 (Or.inr (slot_ne (Or.inl (hw _ (List.mem_of_getElem? (i := 15) rfl))) (Or.inl (hw _ (List.mem_of_getElem? (i := 30) rfl))) (by decide) (t := .long) (t' := .long) (by decide) (by decide)))).other W541 (Or.inr (slot_ne (Or.inl (hw _ (List.mem_of_getElem? (i := 15) rfl))) (Or.inl (hw _ (List.mem_of_getElem? (i := 32) rfl))) (by decide) (t := .long) (t' := .long) (by decide) (by decide)))).other W545 (Or.inr (slot_ne (Or.inl (hw _ (List.mem_of_getElem? (i := 15) rfl))) (Or.inl (hw _ (List.mem_of_getElem? (i := 34) rfl))) (by decide) (t := .long) (t' := .long) (by decide) (by decide)))).other W549 (Or.inr (slot_ne (Or.inl (hw _ (List.mem_of_getElem? (i := 15) rfl))) (Or.inl (hw _ (List.mem_of_getElem? (i := 66) rfl))) (by decide) (t := .long) (t' := .boolean) (by decide) (by decide))))
    have Fc553 := ((((Fw533.other W537 (Or.inr (slot_ne (Or.inl (hw _ (List.mem_of_getElem? (i := 28) rfl))) (Or.inl (hw _ (List.mem_of_getElem? (i := 30) rfl))) (by decide) (t := .long) (t' := .long) (by decide) (by decide)))).other W541 (Or.inr (slot_ne (Or.inl (hw _ (List.mem_of_getElem? (i := 28) rfl))) (Or.inl (hw _ (List.mem_of_getElem? (i := 32) rfl))) (by decide) (t := .long) (t' := .long) (by decide) (by decide)))).other W545 (Or.inr (slot_ne (Or.inl (hw _ (List.mem_of_getElem? (i := 28) rfl))) (Or.inl (hw _ (List.mem_of_getElem? (i := 34) rfl))) (by decide) (t := .long) (t' := .long) (by decide) (by decide)))).other W549 (Or.inr (slot_ne (Or.inl (hw _ (List.mem_of_getElem? (i := 28) rfl))) (Or.inl (hw _ (List.mem_of_getElem? (i := 66) rfl))) (by decide) (t := .long) (t' := .boolean) (by decide) (by decide))))
    have Fc554 := (((Fw537.other W541 (Or.inr (slot_ne (Or.inl (hw _ (List.mem_of_getElem? (i := 30) rfl))) (Or.inl (hw _ (List.mem_of_getElem? (i := 32) rfl))) (by decide) (t := .long) (t' := .long) (by decide) (by decide)))).other W545 (Or.inr (slot_ne (Or.inl (hw _ (List.mem_of_getElem? (i := 30) rfl))) (Or.inl (hw _ (List.mem_of_getElem? (i := 34) rfl))) (by decide) (t := .long) (t' := .long) (by decide) (by decide)))).other W549 (Or.inr (slot_ne (Or.inl (hw _ (List.mem_of_getElem? (i := 30) rfl))) (Or.inl (hw _ (List.mem_of_getElem? (i := 66) rfl))) (by decide) (t := .long) (t' := .boolean) (by decide) (by decide))))
    have Fc555 := ((Fw541.other W545 (Or.inr (slot_ne (Or.inl (hw _ (List.mem_of_getElem? (i := 32) rfl))) (Or.inl (hw _ (List.mem_of_getElem? (i := 34) rfl))) (by decide) (t := .long) (t' := .long) (by decide) (by decide)))).other W549 (Or.inr (slot_ne (Or.inl (hw _ (List.mem_of_getElem? (i := 32) rfl))) (Or.inl (hw _ (List.mem_of_getElem? (i := 66) rfl))) (by decide) (t := .long) (t' := .boolean) (by decide) (by decide))))
    have Fc556 := (Fw545.other W549 (Or.inr (slot_ne (Or.inl (hw _ (List.mem_of_getElem? (i := 34) rfl))) (Or.inl (hw _ (List.mem_of_getElem? (i := 66) rfl))) (by decide) (t := .long) (t' := .boolean) (by decide) (by decide))))
    obtain ⟨fs, hr, hrun, hended, hW, hsame⟩ := X549.leave (v := none) (fun _ => rfl)
    refine ⟨_, _, X549.returnOut hx Bd.returns (hb hby d3_610) hr, hrun, hended, _, _, rfl, ?_, ⟨⟨_, rfl⟩, hW, hsame.mono (by decide) (by decide)⟩⟩
    show QaddB2 Z x cn pt l0 l1 l2 l3 h0 n0 _ T549.heap _
    rw [e549]
    exact ⟨(l0 + (0 : Int64)), ((l1 + (0 : Int64)) + (0 : Int64)), ((l2 + (fMag cn)) + (0 : Int64)), ((l3 + (0 : Int64)) + k530), rfl, N549, ((((((Keep.refl h0 [x]).wr W533 (Or.inl (by simp))).wr W537 (Or.inl (by simp))).wr W541 (Or.inl (by simp))).wr W545 (Or.inl (by simp))).wr W549 (Or.inl (by simp))), Ec551, Fc552, Fc553, Fc554, Fc555, Fc556, Fw549, (own_add_ne0 hpos)⟩
def QaddB3 (Z : State) (x : Addr) (cn : Int64) (pt : Int64) (l0 : Int64) (l1 : Int64) (l2 : Int64) (l3 : Int64) (h0 : Heap) (n0 : Nat) (v : Option Value) (h : Heap) (L : List Loc) : Prop := ∃ (m0 : Int64), ∃ (m1 : Int64), ∃ (m2 : Int64), ∃ (m3 : Int64), v = none ∧ Fr n0 L ∧ Keep h0 h [x] ∧ (Exa Z h x "com/example/evenkeel/evenkeel/share/FlooredSum") ∧ (Fld Z h x "com/example/evenkeel/evenkeel/share/FlooredSum" "point" "J" (.long pt)) ∧ (Fld Z h x "com/example/evenkeel/evenkeel/share/FlooredSum" "limb0" "J" (.long m0)) ∧ (Fld Z h x "com/example/evenkeel/evenkeel/share/FlooredSum" "limb1" "J" (.long m1)) ∧ (Fld Z h x "com/example/evenkeel/evenkeel/share/FlooredSum" "limb2" "J" (.long m2)) ∧ (Fld Z h x "com/example/evenkeel/evenkeel/share/FlooredSum" "limb3" "J" (.long m3)) ∧ (Fld Z h x "com/example/evenkeel/evenkeel/share/FlooredSum" "known" "Z" (.int (0 : Int32))) ∧ (¬ m3 = l3)
theorem ef_addB3 (m : MethodId) (x0 : Addr) (x1 : Int64) (x2 : Int64) (x3 : Int64) (x4 : Int64) : entryFrame m #[(.ref x0), (.long x1), (.long x2), (.long x3), (.long x4)] 57 = mkF m 0 #[.val (.ref x0), sJ x1, sS, sJ x2, sS, sJ x3, sS, sJ x4, sS, sU, sU, sU, sU, sU, sU, sU, sU, sU, sU, sU, sU, sU, sU, sU, sU, sU, sU, sU, sU, sU, sU, sU, sU, sU, sU, sU, sU, sU, sU, sU, sU, sU, sU, sU, sU, sU, sU, sU, sU, sU, sU, sU, sU, sU, sU, sU, sU] [] := by first | (simp [entryFrame, mkF, argsToLocals, Value.category]; done) | rfl
theorem d3_199 : decode prog_96_method_10_code 199 = .ok (.lload 11, 2) := by decide +kernel
theorem d3_201 : decode prog_96_method_10_code 201 = .ok (.bipush 64, 2) := by decide +kernel
theorem d3_203 : decode prog_96_method_10_code 203 = .ok (.iload 22, 2) := by decide +kernel
theorem d3_205 : decode prog_96_method_10_code 205 = .ok (.isub, 1) := by decide +kernel
theorem d3_206 : decode prog_96_method_10_code 206 = .ok (.lushr, 1) := by decide +kernel
theorem d3_224 : decode prog_96_method_10_code 224 = .ok (.lload 15, 2) := by decide +kernel
theorem d3_226 : decode prog_96_method_10_code 226 = .ok (.bipush 64, 2) := by decide +kernel
theorem d3_228 : decode prog_96_method_10_code 228 = .ok (.iload 22, 2) := by decide +kernel
theorem d3_230 : decode prog_96_method_10_code 230 = .ok (.isub, 1) := by decide +kernel
theorem d3_231 : decode prog_96_method_10_code 231 = .ok (.lushr, 1) := by decide +kernel
theorem d3_244 : decode prog_96_method_10_code 244 = .ok (.lload 17, 2) := by decide +kernel
theorem d3_246 : decode prog_96_method_10_code 246 = .ok (.bipush 64, 2) := by decide +kernel
theorem d3_248 : decode prog_96_method_10_code 248 = .ok (.iload 22, 2) := by decide +kernel
theorem d3_250 : decode prog_96_method_10_code 250 = .ok (.isub, 1) := by decide +kernel
theorem d3_251 : decode prog_96_method_10_code 251 = .ok (.lushr, 1) := by decide +kernel
set_option maxRecDepth 65536 in
set_option maxHeartbeats 40000000 in
theorem addB3 (l : Launch) (Z : State) (a0 : Array Value) (hw : ∀ d ∈ tables_1, d.before a0 Z = true) (ws : List Jvm.Cond) (x : Addr) (cn : Int64) (pt : Int64) (l0 : Int64) (l1 : Int64) (l2 : Int64) (l3 : Int64) (h0 : Heap) (n0 : Nat) (Z0 : n0 ≤ h0.size) (q0 : Exa Z h0 x "com/example/evenkeel/evenkeel/share/FlooredSum") (q1 : @LE.le Nat instLENat n0 x) (q2 : Fld Z h0 x "com/example/evenkeel/evenkeel/share/FlooredSum" "point" "J" (.long pt)) (q3 : Fld Z h0 x "com/example/evenkeel/evenkeel/share/FlooredSum" "limb0" "J" (.long l0)) (q4 : Fld Z h0 x "com/example/evenkeel/evenkeel/share/FlooredSum" "limb1" "J" (.long l1)) (q5 : Fld Z h0 x "com/example/evenkeel/evenkeel/share/FlooredSum" "limb2" "J" (.long l2)) (q6 : Fld Z h0 x "com/example/evenkeel/evenkeel/share/FlooredSum" "limb3" "J" (.long l3)) (q7 : Fld Z h0 x "com/example/evenkeel/evenkeel/share/FlooredSum" "known" "Z" (.int (0 : Int32))) (hpt : ¬ pt = (-9223372036854775808 : Int64)) (hl3 : l3 = 0 ∨ l3 = -1) (hd : ¬ cn = (0 : Int64)) (hm : 0 ≤ (fMag cn).toInt) (hpos : ¬ (ushrL (fMag cn) (1 : Int32)) = (0 : Int64)) (hneg : ¬ -(ushrL (fMag cn) (1 : Int32)) = (0 : Int64)) (hex : ¬ (pt + (127 : Int64)) < pt) (hsh : (fMag cn) <<< ((63 : Int32).toInt64 &&& 63) = 0) (hb1 : -9223372036854775808 < (ushrL (fMag cn) (1 : Int32)).toInt) (hb2 : -9223372036854775808 < (-(ushrL (fMag cn) (1 : Int32))).toInt) :
    MetFree l (⟨"com/example/evenkeel/evenkeel/share/FlooredSum", "add", "(JJJJ)V"⟩ : MethodName) (head1 (Jvm.Cond.code (⟨"com/example/evenkeel/evenkeel/share/FlooredSum", "add", "(JJJJ)V"⟩ : MethodName) prog_96_method_10_code 57 none :: ws) ({ frames := 2, cells := 0, slots := 0, locals := 50 } : Room)) (fun a_ U_ => a_ = #[(.ref x), (.long cn), (.long (1 : Int64)), (.long (0 : Int64)), (.long (pt + (127 : Int64)))] ∧ Z.Warmed39 U_.vm ∧ U_.heap = h0) (fun _ _ _ _ _ => True) (fun _ U_ o_ V_ => ∃ v_ L_, o_ = .returned v_ ∧ QaddB3 Z x cn pt l0 l1 l2 l3 h0 n0 v_ V_.heap L_ ∧ FrameEnd U_ o_ V_ L_ ({ frames := 2, cells := 0, slots := 0, locals := 50 } : Room).cells ({ frames := 2, cells := 0, slots := 0, locals := 50 } : Room).slots) := by
  refine MetFree.of_bodySF (plainFor_of_name pn_0) hisR ?_
  intro p e s m args below meth c s₁ Bd hml0 hP hK
  obtain ⟨rfl, hZ, hh⟩ := hP
  have hx := Bd.exec
  have hby := Bd.bytes
  have hml : c.maxLocals = 57 := hml0
  have hown : s.vm.findClass "com/example/evenkeel/evenkeel/share/FlooredSum" = some m.cls := findClass_of_methodNamed Bd.named
  have hnm := (name_of_methodNamed Bd.named Bd.method).1
  have X0 : Stand p l e ({ frames := 2, cells := 0, slots := 0, locals := 50 } : Room) s m #[(.ref x), (.long cn), (.long (1 : Int64)), (.long (0 : Int64)), (.long (pt + (127 : Int64)))] below meth c s₁ [] 0 0 := Stand.of_body Bd
  have e0 : s₁.heap = h0 := by rw [← hh, Bd.state]; rfl
  have N0 := Fr.nil n0
  have lt557 := own_alt q0.lt
  have lt558 := own_alt q2.lt
  have lt559 := own_alt q3.lt
  have lt560 := own_alt q4.lt
  have lt561 := own_alt q5.lt
  have lt562 := own_alt q6.lt
  have lt563 := own_alt q7.lt
  refine Gl.go (A := s₁.setTop (entryFrame m #[(.ref x), (.long cn), (.long (1 : Int64)), (.long (0 : Int64)), (.long (pt + (127 : Int64)))] 57)) (P := fun o_ U_ => ∃ v_ L_, o_ = .returned v_ ∧ QaddB3 Z x cn pt l0 l1 l2 l3 h0 n0 v_ U_.heap L_ ∧ FrameEnd s o_ U_ L_ ({ frames := 2, cells := 0, slots := 0, locals := 50 } : Room).cells ({ frames := 2, cells := 0, slots := 0, locals := 50 } : Room).slots) (fun t_ k_ => castTop (ef_addB3 m x cn (1 : Int64) (0 : Int64) (pt + (127 : Int64))) k_) ?_
  show Gl p.tables e below _ (s₁.setTop (mkF m 0 #[.val (.ref x), sJ cn, sS, sJ 1, sS, sJ 0, sS, sJ (pt + (127 : Int64)), sS, sU, sU, sU, sU, sU, sU, sU, sU, sU, sU, sU, sU, sU, sU, sU, sU, sU, sU, sU, sU, sU, sU, sU, sU, sU, sU, sU, sU, sU, sU, sU, sU, sU, sU, sU, sU, sU, sU, sU, sU, sU, sU, sU, sU, sU, sU, sU, sU] []))
  refine Gl.go (fun _ hr => zXS_aloadN X0.here hx rfl (hb hby d3_0) rfl rfl hr) ?_
  refine gGetF (host := "") Gl.cl X0 hx hZ hown (Or.inl (hw _ (List.mem_of_getElem? (i := 14) rfl))) Via.refl e0 q2 rfl rfl (hb hby d3_1) ?_
  intro T564 X564 e564
  refine Gl.go (X564.ldc2Long hx hown (mvT hZ (hw _ (List.mem_of_getElem? (i := 13) rfl))) rfl (hb hby d3_4)) ?_
  refine Gl.go (fun _ hr => zXT_lcmp X564.here hx rfl (hb hby d3_7) rfl hr) ?_
  refine Gl.go (fun _ hr => zXS_ifYes X564.here hx rfl (pc0 := 8) (pc' := 17) rfl (hb hby d3_8) rfl (XT.ll_ne_t hpt) (by decide) (by decide) (zXT_lload X564.here hx rfl (hb hby d3_17) rfl (zXS_aloadN X564.here hx rfl (hb hby d3_19) rfl rfl hr))) ?_
  refine gGetF (host := "") Gl.cl X564 hx hZ hown (Or.inl (hw _ (List.mem_of_getElem? (i := 14) rfl))) Via.refl e564 q2 rfl rfl (hb hby d3_20) ?_
  intro T565 X565 e565
  refine Gl.go (fun _ hr => zXT_lcmp X565.here hx rfl (hb hby d3_23) rfl hr) ?_
  refine Gl.go (fun _ hr => zXS_ifYes X565.here hx rfl (pc0 := 24) (pc' := 46) rfl (hb hby d3_24) rfl (XT.ll_ge_t hex) (by decide) (by decide) (zXT_lloadN X565.here hx rfl (hb hby d3_46) rfl (zXT_lconst X565.here hx rfl (hb hby d3_47) (zXT_lcmp X565.here hx rfl (hb hby d3_48) rfl hr)))) ?_
  refine Gl.go (fun _ hr => zXS_ifNo X565.here hx rfl (hb hby d3_49) rfl (XT.ll_eq_f hd) (zXT_lloadN X565.here hx rfl (hb hby d3_52) rfl (zXT_lconst X565.here hx rfl (hb hby d3_53) (zXT_lcmp X565.here hx rfl (hb hby d3_54) rfl (zXS_ifYes X565.here hx rfl (pc0 := 55) (pc' := 66) rfl (hb hby d3_55) rfl (XT.ll_ne_t (by decide)) (by decide) (by decide) (zXT_lloadN X565.here hx rfl (hb hby d3_66) rfl hr)))))) ?_
  have zz566 : n0 ≤ h0.size := by omega
  refine gStaticN Gl.cl (y := (⟨"java/lang/Math", "abs", "(J)J"⟩ : MethodName)) (argsL := [(.long cn)]) (rest := []) (mc := 0) (ms := 0) X565 hx hZ hown (mvT hZ (hw _ (List.mem_of_getElem? (i := 35) rfl))) (mvT hZ (hw _ (List.mem_of_getElem? (i := 36) rfl))) (mvT hZ (hw _ (List.mem_of_getElem? (i := 37) rfl))) (mvT hZ (hw _ (List.mem_of_getElem? (i := 38) rfl))) (by decide) (backOf (W := 0) (absm l Z a0 hw [] cn h0 n0 zz566 ) hZ (hw _ (List.mem_of_getElem? (i := 38) rfl)) (hw _ (List.mem_of_getElem? (i := 37) rfl)) (by decide) (by decide)) rfl (by rw [hml]; rfl) (lenOf pd_3 rfl) rfl (by show 2 * 0 + _ ≤ _; exact Nat.le_of_eq rfl) (hb hby d3_67) rfl e565 (by decide) (by decide) ?_
  intro v566 T566 Lc566 hQ566 X566
  obtain ⟨rfl, Nq566, e566⟩ := hQ566
  have N566 := Fr.app N0 Nq566
  refine Gl.go (fun _ hr => zXT_lstore X566.here hx rfl (hb hby d3_70) rfl (l' := #[.val (.ref x), sJ cn, sS, sJ 1, sS, sJ 0, sS, sJ (pt + (127 : Int64)), sS, sJ (fMag cn), sS, sU, sU, sU, sU, sU, sU, sU, sU, sU, sU, sU, sU, sU, sU, sU, sU, sU, sU, sU, sU, sU, sU, sU, sU, sU, sU, sU, sU, sU, sU, sU, sU, sU, sU, sU, sU, sU, sU, sU, sU, sU, sU, sU, sU, sU, sU]) rfl (zXT_lload X566.here hx rfl (hb hby d3_72) rfl (zXT_lload X566.here hx rfl (hb hby d3_74) rfl (zXT_lmul X566.here hx rfl (hb hby d3_76) rfl hr)))) ?_
  show Gl p.tables e below _ (T566.setTop (mkF m 77 #[.val (.ref x), sJ cn, sS, sJ 1, sS, sJ 0, sS, sJ (pt + (127 : Int64)), sS, sJ (fMag cn), sS, sU, sU, sU, sU, sU, sU, sU, sU, sU, sU, sU, sU, sU, sU, sU, sU, sU, sU, sU, sU, sU, sU, sU, sU, sU, sU, sU, sU, sU, sU, sU, sU, sU, sU, sU, sU, sU, sU, sU, sU, sU, sU, sU, sU, sU, sU] [(.long ((fMag cn) * (0 : Int64)))]))
  rw [Int64.mul_zero]
  show Gl p.tables e below _ (T566.setTop (mkF m 77 #[.val (.ref x), sJ cn, sS, sJ 1, sS, sJ 0, sS, sJ (pt + (127 : Int64)), sS, sJ (fMag cn), sS, sU, sU, sU, sU, sU, sU, sU, sU, sU, sU, sU, sU, sU, sU, sU, sU, sU, sU, sU, sU, sU, sU, sU, sU, sU, sU, sU, sU, sU, sU, sU, sU, sU, sU, sU, sU, sU, sU, sU, sU, sU, sU, sU, sU, sU, sU] [(.long (0 : Int64))]))
  refine Gl.go (fun _ hr => zXT_lstore X566.here hx rfl (hb hby d3_77) rfl (l' := #[.val (.ref x), sJ cn, sS, sJ 1, sS, sJ 0, sS, sJ (pt + (127 : Int64)), sS, sJ (fMag cn), sS, sJ 0, sS, sU, sU, sU, sU, sU, sU, sU, sU, sU, sU, sU, sU, sU, sU, sU, sU, sU, sU, sU, sU, sU, sU, sU, sU, sU, sU, sU, sU, sU, sU, sU, sU, sU, sU, sU, sU, sU, sU, sU, sU, sU, sU, sU, sU]) rfl (zXT_lload X566.here hx rfl (hb hby d3_79) rfl (zXT_lload X566.here hx rfl (hb hby d3_81) rfl hr))) ?_
  have zz567 : n0 ≤ h0.size := by omega
  refine gStaticN Gl.cl (y := (⟨"com/example/evenkeel/evenkeel/share/FlooredSum", "unsignedMultiplyHigh", "(JJ)J"⟩ : MethodName)) (argsL := [(.long (fMag cn)), (.long (0 : Int64))]) (rest := []) (mc := 0) (ms := 0) X566 hx hZ hown (mvT hZ (hw _ (List.mem_of_getElem? (i := 39) rfl))) (mvT hZ (hw _ (List.mem_of_getElem? (i := 40) rfl))) (mvT hZ (hw _ (List.mem_of_getElem? (i := 6) rfl))) (mvT hZ (hw _ (List.mem_of_getElem? (i := 41) rfl))) (by decide) (backOf (W := 0) (umh l Z a0 hw [] (fMag cn) (0 : Int64) h0 n0 zz567 ) hZ (hw _ (List.mem_of_getElem? (i := 41) rfl)) (hw _ (List.mem_of_getElem? (i := 6) rfl)) (by decide) (by decide)) rfl (by rw [hml]; rfl) (lenOf pd_0 rfl) rfl (by show 2 * 0 + _ ≤ _; exact Nat.le_of_eq rfl) (hb hby d3_83) rfl e566 (by decide) (by decide) ?_
  intro v567 T567 Lc567 hQ567 X567
  obtain ⟨rfl, Nq567, e567⟩ := hQ567
  have N567 := Fr.app N566 Nq567
  show Gl p.tables e below _ (T567.setTop (mkF m 86 #[.val (.ref x), sJ cn, sS, sJ 1, sS, sJ 0, sS, sJ (pt + (127 : Int64)), sS, sJ (fMag cn), sS, sJ 0, sS, sU, sU, sU, sU, sU, sU, sU, sU, sU, sU, sU, sU, sU, sU, sU, sU, sU, sU, sU, sU, sU, sU, sU, sU, sU, sU, sU, sU, sU, sU, sU, sU, sU, sU, sU, sU, sU, sU, sU, sU, sU, sU, sU, sU] [(.long (fUMH (fMag cn) (0 : Int64)))]))
  rw [own_umh0]
  show Gl p.tables e below _ (T567.setTop (mkF m 86 #[.val (.ref x), sJ cn, sS, sJ 1, sS, sJ 0, sS, sJ (pt + (127 : Int64)), sS, sJ (fMag cn), sS, sJ 0, sS, sU, sU, sU, sU, sU, sU, sU, sU, sU, sU, sU, sU, sU, sU, sU, sU, sU, sU, sU, sU, sU, sU, sU, sU, sU, sU, sU, sU, sU, sU, sU, sU, sU, sU, sU, sU, sU, sU, sU, sU, sU, sU, sU, sU] [(.long (0 : Int64))]))
  refine Gl.go (fun _ hr => zXT_lstore X567.here hx rfl (hb hby d3_86) rfl (l' := #[.val (.ref x), sJ cn, sS, sJ 1, sS, sJ 0, sS, sJ (pt + (127 : Int64)), sS, sJ (fMag cn), sS, sJ 0, sS, sJ 0, sS, sU, sU, sU, sU, sU, sU, sU, sU, sU, sU, sU, sU, sU, sU, sU, sU, sU, sU, sU, sU, sU, sU, sU, sU, sU, sU, sU, sU, sU, sU, sU, sU, sU, sU, sU, sU, sU, sU, sU, sU, sU, sU]) rfl (zXT_lload X567.here hx rfl (hb hby d3_88) rfl (zXT_lload X567.here hx rfl (hb hby d3_90) rfl (zXT_lloadN X567.here hx rfl (hb hby d3_92) rfl (zXT_lmul X567.here hx rfl (hb hby d3_93) rfl hr))))) ?_
  show Gl p.tables e below _ (T567.setTop (mkF m 94 #[.val (.ref x), sJ cn, sS, sJ 1, sS, sJ 0, sS, sJ (pt + (127 : Int64)), sS, sJ (fMag cn), sS, sJ 0, sS, sJ 0, sS, sU, sU, sU, sU, sU, sU, sU, sU, sU, sU, sU, sU, sU, sU, sU, sU, sU, sU, sU, sU, sU, sU, sU, sU, sU, sU, sU, sU, sU, sU, sU, sU, sU, sU, sU, sU, sU, sU, sU, sU, sU, sU] [(.long ((fMag cn) * (1 : Int64))), (.long (0 : Int64))]))
  rw [Int64.mul_one]
  show Gl p.tables e below _ (T567.setTop (mkF m 94 #[.val (.ref x), sJ cn, sS, sJ 1, sS, sJ 0, sS, sJ (pt + (127 : Int64)), sS, sJ (fMag cn), sS, sJ 0, sS, sJ 0, sS, sU, sU, sU, sU, sU, sU, sU, sU, sU, sU, sU, sU, sU, sU, sU, sU, sU, sU, sU, sU, sU, sU, sU, sU, sU, sU, sU, sU, sU, sU, sU, sU, sU, sU, sU, sU, sU, sU, sU, sU, sU, sU] [(.long (fMag cn)), (.long (0 : Int64))]))
  refine Gl.go (fun _ hr => zXT_ladd X567.here hx rfl (hb hby d3_94) rfl hr) ?_
  show Gl p.tables e below _ (T567.setTop (mkF m 95 #[.val (.ref x), sJ cn, sS, sJ 1, sS, sJ 0, sS, sJ (pt + (127 : Int64)), sS, sJ (fMag cn), sS, sJ 0, sS, sJ 0, sS, sU, sU, sU, sU, sU, sU, sU, sU, sU, sU, sU, sU, sU, sU, sU, sU, sU, sU, sU, sU, sU, sU, sU, sU, sU, sU, sU, sU, sU, sU, sU, sU, sU, sU, sU, sU, sU, sU, sU, sU, sU, sU] [(.long ((0 : Int64) + (fMag cn)))]))
  rw [Int64.zero_add]
  show Gl p.tables e below _ (T567.setTop (mkF m 95 #[.val (.ref x), sJ cn, sS, sJ 1, sS, sJ 0, sS, sJ (pt + (127 : Int64)), sS, sJ (fMag cn), sS, sJ 0, sS, sJ 0, sS, sU, sU, sU, sU, sU, sU, sU, sU, sU, sU, sU, sU, sU, sU, sU, sU, sU, sU, sU, sU, sU, sU, sU, sU, sU, sU, sU, sU, sU, sU, sU, sU, sU, sU, sU, sU, sU, sU, sU, sU, sU, sU] [(.long (fMag cn))]))
  refine Gl.go (fun _ hr => zXT_lstore X567.here hx rfl (hb hby d3_95) rfl (l' := #[.val (.ref x), sJ cn, sS, sJ 1, sS, sJ 0, sS, sJ (pt + (127 : Int64)), sS, sJ (fMag cn), sS, sJ 0, sS, sJ 0, sS, sJ (fMag cn), sS, sU, sU, sU, sU, sU, sU, sU, sU, sU, sU, sU, sU, sU, sU, sU, sU, sU, sU, sU, sU, sU, sU, sU, sU, sU, sU, sU, sU, sU, sU, sU, sU, sU, sU, sU, sU, sU, sU, sU, sU]) rfl (zXT_lload X567.here hx rfl (hb hby d3_97) rfl (zXT_lloadN X567.here hx rfl (hb hby d3_99) rfl hr))) ?_
  have zz568 : n0 ≤ h0.size := by omega
  refine gStaticN Gl.cl (y := (⟨"java/lang/Math", "multiplyHigh", "(JJ)J"⟩ : MethodName)) (argsL := [(.long (fMag cn)), (.long (1 : Int64))]) (rest := []) (mc := 0) (ms := 0) X567 hx hZ hown (mvT hZ (hw _ (List.mem_of_getElem? (i := 42) rfl))) (mvT hZ (hw _ (List.mem_of_getElem? (i := 43) rfl))) (mvT hZ (hw _ (List.mem_of_getElem? (i := 37) rfl))) (mvT hZ (hw _ (List.mem_of_getElem? (i := 44) rfl))) (by decide) (backOf (W := 0) (mhm l Z a0 hw [] (fMag cn) (1 : Int64) h0 n0 zz568 ) hZ (hw _ (List.mem_of_getElem? (i := 44) rfl)) (hw _ (List.mem_of_getElem? (i := 37) rfl)) (by decide) (by decide)) rfl (by rw [hml]; rfl) (lenOf pd_0 rfl) rfl (by show 2 * 0 + _ ≤ _; exact Nat.le_of_eq rfl) (hb hby d3_100) rfl e567 (by decide) (by decide) ?_
  intro v568 T568 Lc568 hQ568 X568
  obtain ⟨rfl, Nq568, e568⟩ := hQ568
  have N568 := Fr.app N567 Nq568
  show Gl p.tables e below _ (T568.setTop (mkF m 103 #[.val (.ref x), sJ cn, sS, sJ 1, sS, sJ 0, sS, sJ (pt + (127 : Int64)), sS, sJ (fMag cn), sS, sJ 0, sS, sJ 0, sS, sJ (fMag cn), sS, sU, sU, sU, sU, sU, sU, sU, sU, sU, sU, sU, sU, sU, sU, sU, sU, sU, sU, sU, sU, sU, sU, sU, sU, sU, sU, sU, sU, sU, sU, sU, sU, sU, sU, sU, sU, sU, sU, sU, sU] [(.long (fMH (fMag cn) (1 : Int64)))]))
  rw [own_mh1 hm]
  show Gl p.tables e below _ (T568.setTop (mkF m 103 #[.val (.ref x), sJ cn, sS, sJ 1, sS, sJ 0, sS, sJ (pt + (127 : Int64)), sS, sJ (fMag cn), sS, sJ 0, sS, sJ 0, sS, sJ (fMag cn), sS, sU, sU, sU, sU, sU, sU, sU, sU, sU, sU, sU, sU, sU, sU, sU, sU, sU, sU, sU, sU, sU, sU, sU, sU, sU, sU, sU, sU, sU, sU, sU, sU, sU, sU, sU, sU, sU, sU, sU, sU] [(.long (0 : Int64))]))
  refine Gl.go (fun _ hr => zXT_lload X568.here hx rfl (hb hby d3_103) rfl (zXT_lload X568.here hx rfl (hb hby d3_105) rfl hr)) ?_
  have zz569 : n0 ≤ h0.size := by omega
  refine gStaticN Gl.cl (y := (⟨"java/lang/Long", "compareUnsigned", "(JJ)I"⟩ : MethodName)) (argsL := [(.long (fMag cn)), (.long (0 : Int64))]) (rest := [(.long (0 : Int64))]) (mc := 0) (ms := 0) X568 hx hZ hown (mvT hZ (hw _ (List.mem_of_getElem? (i := 46) rfl))) (mvT hZ (hw _ (List.mem_of_getElem? (i := 47) rfl))) (mvT hZ (hw _ (List.mem_of_getElem? (i := 48) rfl))) (mvT hZ (hw _ (List.mem_of_getElem? (i := 49) rfl))) (by decide) (backOf (W := 2) (cum l Z a0 hw [] (fMag cn) (0 : Int64) h0 n0 zz569 ) hZ (hw _ (List.mem_of_getElem? (i := 49) rfl)) (hw _ (List.mem_of_getElem? (i := 48) rfl)) (by decide) (by decide)) rfl (by rw [hml]; rfl) (lenOf pd_1 rfl) rfl (by show 2 * 0 + _ ≤ _; exact Nat.le_of_eq rfl) (hb hby d3_107) rfl e568 (by decide) (by decide) ?_
  intro v569 T569 Lc569 hQ569 X569
  obtain ⟨rfl, Nq569, e569⟩ := hQ569
  have N569 := Fr.app N568 Nq569
  refine Gl.go (fun _ hr => zXS_ifYes X569.here hx rfl (pc0 := 110) (pc' := 117) rfl (hb hby d3_110) rfl (XT.i0_ge_t (own_cu0 _)) (by decide) (by decide) (zXS_iconst X569.here hx rfl (hb hby d3_117) (zXT_i2l X569.here hx rfl (hb hby d3_118) rfl (zXT_ladd X569.here hx rfl (hb hby d3_119) rfl (zXT_lstore X569.here hx rfl (hb hby d3_120) rfl (l' := #[.val (.ref x), sJ cn, sS, sJ 1, sS, sJ 0, sS, sJ (pt + (127 : Int64)), sS, sJ (fMag cn), sS, sJ 0, sS, sJ 0, sS, sJ (fMag cn), sS, sJ 0, sS, sU, sU, sU, sU, sU, sU, sU, sU, sU, sU, sU, sU, sU, sU, sU, sU, sU, sU, sU, sU, sU, sU, sU, sU, sU, sU, sU, sU, sU, sU, sU, sU, sU, sU, sU, sU, sU, sU]) rfl (zXT_lload X569.here hx rfl (hb hby d3_122) rfl (zXS_aloadN X569.here hx rfl (hb hby d3_124) rfl rfl hr))))))) ?_
  refine gGetF (host := "") Gl.cl X569 hx hZ hown (Or.inl (hw _ (List.mem_of_getElem? (i := 14) rfl))) Via.refl e569 q2 rfl rfl (hb hby d3_125) ?_
  intro T570 X570 e570
  refine Gl.go (fun _ hr => zXT_lsub X570.here hx rfl (hb hby d3_128) rfl hr) ?_
  show Gl p.tables e below _ (T570.setTop (mkF m 129 #[.val (.ref x), sJ cn, sS, sJ 1, sS, sJ 0, sS, sJ (pt + (127 : Int64)), sS, sJ (fMag cn), sS, sJ 0, sS, sJ 0, sS, sJ (fMag cn), sS, sJ 0, sS, sU, sU, sU, sU, sU, sU, sU, sU, sU, sU, sU, sU, sU, sU, sU, sU, sU, sU, sU, sU, sU, sU, sU, sU, sU, sU, sU, sU, sU, sU, sU, sU, sU, sU, sU, sU, sU, sU] [(.long ((pt + (127 : Int64)) - pt))]))
  rw [own_addsub]
  show Gl p.tables e below _ (T570.setTop (mkF m 129 #[.val (.ref x), sJ cn, sS, sJ 1, sS, sJ 0, sS, sJ (pt + (127 : Int64)), sS, sJ (fMag cn), sS, sJ 0, sS, sJ 0, sS, sJ (fMag cn), sS, sJ 0, sS, sU, sU, sU, sU, sU, sU, sU, sU, sU, sU, sU, sU, sU, sU, sU, sU, sU, sU, sU, sU, sU, sU, sU, sU, sU, sU, sU, sU, sU, sU, sU, sU, sU, sU, sU, sU, sU, sU] [(.long (127 : Int64))]))
  refine Gl.go (fun _ hr => zXT_lstore X570.here hx rfl (hb hby d3_129) rfl (l' := #[.val (.ref x), sJ cn, sS, sJ 1, sS, sJ 0, sS, sJ (pt + (127 : Int64)), sS, sJ (fMag cn), sS, sJ 0, sS, sJ 0, sS, sJ (fMag cn), sS, sJ 0, sS, sJ 127, sS, sU, sU, sU, sU, sU, sU, sU, sU, sU, sU, sU, sU, sU, sU, sU, sU, sU, sU, sU, sU, sU, sU, sU, sU, sU, sU, sU, sU, sU, sU, sU, sU, sU, sU, sU, sU]) rfl (zXT_lload X570.here hx rfl (hb hby d3_131) rfl (zXS_sipush X570.here hx rfl (hb hby d3_133) (zXS_sipush X570.here hx rfl (hb hby d3_136) (zXT_lload X570.here hx rfl (hb hby d3_139) rfl hr))))) ?_
  have zz571 : n0 ≤ h0.size := by omega
  refine gStaticN Gl.cl (y := (⟨"java/lang/Long", "numberOfLeadingZeros", "(J)I"⟩ : MethodName)) (argsL := [(.long (0 : Int64))]) (rest := [(.int (192 : Int32)), (.int (255 : Int32)), (.long (127 : Int64))]) (mc := 0) (ms := 0) X570 hx hZ hown (mvT hZ (hw _ (List.mem_of_getElem? (i := 54) rfl))) (mvT hZ (hw _ (List.mem_of_getElem? (i := 55) rfl))) (mvT hZ (hw _ (List.mem_of_getElem? (i := 48) rfl))) (mvT hZ (hw _ (List.mem_of_getElem? (i := 56) rfl))) (by decide) (backOf (W := 4) (nlzj0 l Z a0 hw []  h0 n0 zz571 ) hZ (hw _ (List.mem_of_getElem? (i := 56) rfl)) (hw _ (List.mem_of_getElem? (i := 48) rfl)) (by decide) (by decide)) rfl (by rw [hml]; rfl) (lenOf pd_4 rfl) rfl (by show 2 * 0 + _ ≤ _; exact Nat.le_of_eq rfl) (hb hby d3_141) rfl e570 (by decide) (by decide) ?_
  intro v571 T571 Lc571 hQ571 X571
  obtain ⟨rfl, Nq571, e571⟩ := hQ571
  have N571 := Fr.app N569 Nq571
  refine Gl.go (fun _ hr => zXS_isub X571.here hx rfl (hb hby d3_144) rfl (zXS_isub X571.here hx rfl (hb hby d3_145) rfl (zXT_i2l X571.here hx rfl (hb hby d3_146) rfl (zXT_lcmp X571.here hx rfl (hb hby d3_147) rfl (zXS_ifYes X571.here hx rfl (pc0 := 148) (pc' := 161) rfl (hb hby d3_148) rfl (XT.ll_le_t (by decide)) (by decide) (by decide) (zXT_lload X571.here hx rfl (hb hby d3_161) rfl (zXS_bipush X571.here hx rfl (hb hby d3_163) (zXT_lushr X571.here hx rfl (hb hby d3_165) rfl (zXT_l2i X571.here hx rfl (hb hby d3_166) rfl (zXS_istore X571.here hx rfl (hb hby d3_167) rfl (l' := #[.val (.ref x), sJ cn, sS, sJ 1, sS, sJ 0, sS, sJ (pt + (127 : Int64)), sS, sJ (fMag cn), sS, sJ 0, sS, sJ 0, sS, sJ (fMag cn), sS, sJ 0, sS, sJ 127, sS, sI 1, sU, sU, sU, sU, sU, sU, sU, sU, sU, sU, sU, sU, sU, sU, sU, sU, sU, sU, sU, sU, sU, sU, sU, sU, sU, sU, sU, sU, sU, sU, sU, sU, sU, sU, sU]) rfl (zXT_lload X571.here hx rfl (hb hby d3_169) rfl hr))))))))))) ?_
  refine Gl.go (X571.ldc2Long hx hown (mvT hZ (hw _ (List.mem_of_getElem? (i := 61) rfl))) rfl (hb hby d3_171)) ?_
  refine Gl.go (fun _ hr => zXT_land X571.here hx rfl (hb hby d3_174) rfl (zXT_l2i X571.here hx rfl (hb hby d3_175) rfl (zXS_istore X571.here hx rfl (hb hby d3_176) rfl (l' := #[.val (.ref x), sJ cn, sS, sJ 1, sS, sJ 0, sS, sJ (pt + (127 : Int64)), sS, sJ (fMag cn), sS, sJ 0, sS, sJ 0, sS, sJ (fMag cn), sS, sJ 0, sS, sJ 127, sS, sI 1, sI 63, sU, sU, sU, sU, sU, sU, sU, sU, sU, sU, sU, sU, sU, sU, sU, sU, sU, sU, sU, sU, sU, sU, sU, sU, sU, sU, sU, sU, sU, sU, sU, sU, sU, sU]) rfl (zXT_lload X571.here hx rfl (hb hby d3_178) rfl (zXS_iload X571.here hx rfl (hb hby d3_180) rfl (zXT_lshl X571.here hx rfl (hb hby d3_182) rfl (zXT_lstore X571.here hx rfl (hb hby d3_183) rfl (l' := #[.val (.ref x), sJ cn, sS, sJ 1, sS, sJ 0, sS, sJ (pt + (127 : Int64)), sS, sJ (fMag cn), sS, sJ 0, sS, sJ 0, sS, sJ (fMag cn), sS, sJ 0, sS, sJ 127, sS, sI 1, sI 63, sJ 0, sS, sU, sU, sU, sU, sU, sU, sU, sU, sU, sU, sU, sU, sU, sU, sU, sU, sU, sU, sU, sU, sU, sU, sU, sU, sU, sU, sU, sU, sU, sU, sU, sU]) rfl (zXT_lload X571.here hx rfl (hb hby d3_185) rfl (zXS_iload X571.here hx rfl (hb hby d3_187) rfl (zXT_lshl X571.here hx rfl (hb hby d3_189) rfl hr)))))))))) ?_
  show Gl p.tables e below _ (T571.setTop (mkF m 190 #[.val (.ref x), sJ cn, sS, sJ 1, sS, sJ 0, sS, sJ (pt + (127 : Int64)), sS, sJ (fMag cn), sS, sJ 0, sS, sJ 0, sS, sJ (fMag cn), sS, sJ 0, sS, sJ 127, sS, sI 1, sI 63, sJ 0, sS, sU, sU, sU, sU, sU, sU, sU, sU, sU, sU, sU, sU, sU, sU, sU, sU, sU, sU, sU, sU, sU, sU, sU, sU, sU, sU, sU, sU, sU, sU, sU, sU] [(.long ((fMag cn) <<< ((63 : Int32).toInt64 &&& 63)))]))
  rw [hsh]
  show Gl p.tables e below _ (T571.setTop (mkF m 190 #[.val (.ref x), sJ cn, sS, sJ 1, sS, sJ 0, sS, sJ (pt + (127 : Int64)), sS, sJ (fMag cn), sS, sJ 0, sS, sJ 0, sS, sJ (fMag cn), sS, sJ 0, sS, sJ 127, sS, sI 1, sI 63, sJ 0, sS, sU, sU, sU, sU, sU, sU, sU, sU, sU, sU, sU, sU, sU, sU, sU, sU, sU, sU, sU, sU, sU, sU, sU, sU, sU, sU, sU, sU, sU, sU, sU, sU] [(.long (0 : Int64))]))
  refine Gl.go (fun _ hr => zXS_iload X571.here hx rfl (hb hby d3_190) rfl (zXS_ifYes X571.here hx rfl (pc0 := 192) (pc' := 199) rfl (hb hby d3_192) rfl (XT.i0_ne_t (by decide)) (by decide) (by decide) (zXT_lload X571.here hx rfl (hb hby d3_199) rfl (zXS_bipush X571.here hx rfl (hb hby d3_201) (zXS_iload X571.here hx rfl (hb hby d3_203) rfl (zXS_isub X571.here hx rfl (hb hby d3_205) rfl (zXT_lushr X571.here hx rfl (hb hby d3_206) rfl (zXT_lor X571.here hx rfl (hb hby d3_207) rfl (zXT_lstore X571.here hx rfl (hb hby d3_208) rfl (l' := #[.val (.ref x), sJ cn, sS, sJ 1, sS, sJ 0, sS, sJ (pt + (127 : Int64)), sS, sJ (fMag cn), sS, sJ 0, sS, sJ 0, sS, sJ (fMag cn), sS, sJ 0, sS, sJ 127, sS, sI 1, sI 63, sJ 0, sS, sJ 0, sS, sU, sU, sU, sU, sU, sU, sU, sU, sU, sU, sU, sU, sU, sU, sU, sU, sU, sU, sU, sU, sU, sU, sU, sU, sU, sU, sU, sU, sU, sU]) rfl (zXT_lload X571.here hx rfl (hb hby d3_210) rfl (zXS_iload X571.here hx rfl (hb hby d3_212) rfl (zXT_lshl X571.here hx rfl (hb hby d3_214) rfl (zXS_iload X571.here hx rfl (hb hby d3_215) rfl (zXS_ifYes X571.here hx rfl (pc0 := 217) (pc' := 224) rfl (hb hby d3_217) rfl (XT.i0_ne_t (by decide)) (by decide) (by decide) (zXT_lload X571.here hx rfl (hb hby d3_224) rfl (zXS_bipush X571.here hx rfl (hb hby d3_226) hr)))))))))))))))) ?_
  refine Gl.go (fun _ hr => zXS_iload X571.here hx rfl (hb hby d3_228) rfl (zXS_isub X571.here hx rfl (hb hby d3_230) rfl (zXT_lushr X571.here hx rfl (hb hby d3_231) rfl (zXT_lor X571.here hx rfl (hb hby d3_232) rfl hr)))) ?_
  show Gl p.tables e below _ (T571.setTop (mkF m 233 #[.val (.ref x), sJ cn, sS, sJ 1, sS, sJ 0, sS, sJ (pt + (127 : Int64)), sS, sJ (fMag cn), sS, sJ 0, sS, sJ 0, sS, sJ (fMag cn), sS, sJ 0, sS, sJ 127, sS, sI 1, sI 63, sJ 0, sS, sJ 0, sS, sU, sU, sU, sU, sU, sU, sU, sU, sU, sU, sU, sU, sU, sU, sU, sU, sU, sU, sU, sU, sU, sU, sU, sU, sU, sU, sU, sU, sU, sU] [(.long ((0 : Int64) ||| (XT.ushrL (fMag cn) (1 : Int32))))]))
  rw [Int64.zero_or]
  show Gl p.tables e below _ (T571.setTop (mkF m 233 #[.val (.ref x), sJ cn, sS, sJ 1, sS, sJ 0, sS, sJ (pt + (127 : Int64)), sS, sJ (fMag cn), sS, sJ 0, sS, sJ 0, sS, sJ (fMag cn), sS, sJ 0, sS, sJ 127, sS, sI 1, sI 63, sJ 0, sS, sJ 0, sS, sU, sU, sU, sU, sU, sU, sU, sU, sU, sU, sU, sU, sU, sU, sU, sU, sU, sU, sU, sU, sU, sU, sU, sU, sU, sU, sU, sU, sU, sU] [(.long (ushrL (fMag cn) (1 : Int32)))]))
  refine Gl.go (fun _ hr => zXT_lstore X571.here hx rfl (hb hby d3_233) rfl (l' := #[.val (.ref x), sJ cn, sS, sJ 1, sS, sJ 0, sS, sJ (pt + (127 : Int64)), sS, sJ (fMag cn), sS, sJ 0, sS, sJ 0, sS, sJ (fMag cn), sS, sJ 0, sS, sJ 127, sS, sI 1, sI 63, sJ 0, sS, sJ 0, sS, sJ (ushrL (fMag cn) (1 : Int32)), sS, sU, sU, sU, sU, sU, sU, sU, sU, sU, sU, sU, sU, sU, sU, sU, sU, sU, sU, sU, sU, sU, sU, sU, sU, sU, sU, sU, sU]) rfl (zXS_iload X571.here hx rfl (hb hby d3_235) rfl (zXS_ifYes X571.here hx rfl (pc0 := 237) (pc' := 244) rfl (hb hby d3_237) rfl (XT.i0_ne_t (by decide)) (by decide) (by decide) (zXT_lload X571.here hx rfl (hb hby d3_244) rfl (zXS_bipush X571.here hx rfl (hb hby d3_246) (zXS_iload X571.here hx rfl (hb hby d3_248) rfl (zXS_isub X571.here hx rfl (hb hby d3_250) rfl (zXT_lushr X571.here hx rfl (hb hby d3_251) rfl (zXT_lstore X571.here hx rfl (hb hby d3_252) rfl (l' := #[.val (.ref x), sJ cn, sS, sJ 1, sS, sJ 0, sS, sJ (pt + (127 : Int64)), sS, sJ (fMag cn), sS, sJ 0, sS, sJ 0, sS, sJ (fMag cn), sS, sJ 0, sS, sJ 127, sS, sI 1, sI 63, sJ 0, sS, sJ 0, sS, sJ (ushrL (fMag cn) (1 : Int32)), sS, sJ 0, sS, sU, sU, sU, sU, sU, sU, sU, sU, sU, sU, sU, sU, sU, sU, sU, sU, sU, sU, sU, sU, sU, sU, sU, sU, sU, sU]) rfl (zXS_iconst X571.here hx rfl (hb hby d3_254) (zXS_iload X571.here hx rfl (hb hby d3_255) rfl (zXT_lload X571.here hx rfl (hb hby d3_257) rfl (zXT_lload X571.here hx rfl (hb hby d3_259) rfl (zXT_lload X571.here hx rfl (hb hby d3_261) rfl (zXT_lload X571.here hx rfl (hb hby d3_263) rfl hr))))))))))))))) ?_
  have zz572 : n0 ≤ h0.size := by omega
  refine gStaticN Gl.cl (y := (⟨"com/example/evenkeel/evenkeel/share/FlooredSum", "placed", "(IIJJJJ)J"⟩ : MethodName)) (argsL := [(.int (0 : Int32)), (.int (1 : Int32)), (.long (0 : Int64)), (.long (0 : Int64)), (.long (ushrL (fMag cn) (1 : Int32))), (.long (0 : Int64))]) (rest := []) (mc := 0) (ms := 0) X571 hx hZ hown (mvT hZ (hw _ (List.mem_of_getElem? (i := 62) rfl))) (mvT hZ (hw _ (List.mem_of_getElem? (i := 63) rfl))) (mvT hZ (hw _ (List.mem_of_getElem? (i := 6) rfl))) (mvT hZ (hw _ (List.mem_of_getElem? (i := 64) rfl))) (by decide) (backOf (W := 0) (pl01 l Z a0 hw [] (0 : Int64) (0 : Int64) (ushrL (fMag cn) (1 : Int32)) (0 : Int64) h0 n0 zz572 ) hZ (hw _ (List.mem_of_getElem? (i := 64) rfl)) (hw _ (List.mem_of_getElem? (i := 6) rfl)) (by decide) (by decide)) rfl (by rw [hml]; rfl) (lenOf pd_5 rfl) rfl (by show 2 * 0 + _ ≤ _; exact Nat.le_of_eq rfl) (hb hby d3_265) rfl e571 (by decide) (by decide) ?_
  intro v572 T572 Lc572 hQ572 X572
  obtain ⟨rfl, Nq572, e572⟩ := hQ572
  have N572 := Fr.app N571 Nq572
  refine Gl.go (fun _ hr => zXT_lstore X572.here hx rfl (hb hby d3_268) rfl (l' := #[.val (.ref x), sJ cn, sS, sJ 1, sS, sJ 0, sS, sJ (pt + (127 : Int64)), sS, sJ (fMag cn), sS, sJ 0, sS, sJ 0, sS, sJ (fMag cn), sS, sJ 0, sS, sJ 127, sS, sI 1, sI 63, sJ 0, sS, sJ 0, sS, sJ (ushrL (fMag cn) (1 : Int32)), sS, sJ 0, sS, sJ 0, sS, sU, sU, sU, sU, sU, sU, sU, sU, sU, sU, sU, sU, sU, sU, sU, sU, sU, sU, sU, sU, sU, sU, sU, sU]) rfl (zXS_iconst X572.here hx rfl (hb hby d3_270) (zXS_iload X572.here hx rfl (hb hby d3_271) rfl (zXT_lload X572.here hx rfl (hb hby d3_273) rfl (zXT_lload X572.here hx rfl (hb hby d3_275) rfl (zXT_lload X572.here hx rfl (hb hby d3_277) rfl (zXT_lload X572.here hx rfl (hb hby d3_279) rfl hr))))))) ?_
  have zz573 : n0 ≤ h0.size := by omega
  refine gStaticN Gl.cl (y := (⟨"com/example/evenkeel/evenkeel/share/FlooredSum", "placed", "(IIJJJJ)J"⟩ : MethodName)) (argsL := [(.int (1 : Int32)), (.int (1 : Int32)), (.long (0 : Int64)), (.long (0 : Int64)), (.long (ushrL (fMag cn) (1 : Int32))), (.long (0 : Int64))]) (rest := []) (mc := 0) (ms := 0) X572 hx hZ hown (mvT hZ (hw _ (List.mem_of_getElem? (i := 62) rfl))) (mvT hZ (hw _ (List.mem_of_getElem? (i := 63) rfl))) (mvT hZ (hw _ (List.mem_of_getElem? (i := 6) rfl))) (mvT hZ (hw _ (List.mem_of_getElem? (i := 64) rfl))) (by decide) (backOf (W := 0) (pl11 l Z a0 hw [] (0 : Int64) (0 : Int64) (ushrL (fMag cn) (1 : Int32)) (0 : Int64) h0 n0 zz573 ) hZ (hw _ (List.mem_of_getElem? (i := 64) rfl)) (hw _ (List.mem_of_getElem? (i := 6) rfl)) (by decide) (by decide)) rfl (by rw [hml]; rfl) (lenOf pd_5 rfl) rfl (by show 2 * 0 + _ ≤ _; exact Nat.le_of_eq rfl) (hb hby d3_281) rfl e572 (by decide) (by decide) ?_
  intro v573 T573 Lc573 hQ573 X573
  obtain ⟨rfl, Nq573, e573⟩ := hQ573
  have N573 := Fr.app N572 Nq573
  refine Gl.go (fun _ hr => zXT_lstore X573.here hx rfl (hb hby d3_284) rfl (l' := #[.val (.ref x), sJ cn, sS, sJ 1, sS, sJ 0, sS, sJ (pt + (127 : Int64)), sS, sJ (fMag cn), sS, sJ 0, sS, sJ 0, sS, sJ (fMag cn), sS, sJ 0, sS, sJ 127, sS, sI 1, sI 63, sJ 0, sS, sJ 0, sS, sJ (ushrL (fMag cn) (1 : Int32)), sS, sJ 0, sS, sJ 0, sS, sJ 0, sS, sU, sU, sU, sU, sU, sU, sU, sU, sU, sU, sU, sU, sU, sU, sU, sU, sU, sU, sU, sU, sU, sU]) rfl (zXS_iconst X573.here hx rfl (hb hby d3_286) (zXS_iload X573.here hx rfl (hb hby d3_287) rfl (zXT_lload X573.here hx rfl (hb hby d3_289) rfl (zXT_lload X573.here hx rfl (hb hby d3_291) rfl (zXT_lload X573.here hx rfl (hb hby d3_293) rfl (zXT_lload X573.here hx rfl (hb hby d3_295) rfl hr))))))) ?_
  have zz574 : n0 ≤ h0.size := by omega
  refine gStaticN Gl.cl (y := (⟨"com/example/evenkeel/evenkeel/share/FlooredSum", "placed", "(IIJJJJ)J"⟩ : MethodName)) (argsL := [(.int (2 : Int32)), (.int (1 : Int32)), (.long (0 : Int64)), (.long (0 : Int64)), (.long (ushrL (fMag cn) (1 : Int32))), (.long (0 : Int64))]) (rest := []) (mc := 0) (ms := 0) X573 hx hZ hown (mvT hZ (hw _ (List.mem_of_getElem? (i := 62) rfl))) (mvT hZ (hw _ (List.mem_of_getElem? (i := 63) rfl))) (mvT hZ (hw _ (List.mem_of_getElem? (i := 6) rfl))) (mvT hZ (hw _ (List.mem_of_getElem? (i := 64) rfl))) (by decide) (backOf (W := 0) (pl21 l Z a0 hw [] (0 : Int64) (0 : Int64) (ushrL (fMag cn) (1 : Int32)) (0 : Int64) h0 n0 zz574 ) hZ (hw _ (List.mem_of_getElem? (i := 64) rfl)) (hw _ (List.mem_of_getElem? (i := 6) rfl)) (by decide) (by decide)) rfl (by rw [hml]; rfl) (lenOf pd_5 rfl) rfl (by show 2 * 0 + _ ≤ _; exact Nat.le_of_eq rfl) (hb hby d3_297) rfl e573 (by decide) (by decide) ?_
  intro v574 T574 Lc574 hQ574 X574
  obtain ⟨rfl, Nq574, e574⟩ := hQ574
  have N574 := Fr.app N573 Nq574
  refine Gl.go (fun _ hr => zXT_lstore X574.here hx rfl (hb hby d3_300) rfl (l' := #[.val (.ref x), sJ cn, sS, sJ 1, sS, sJ 0, sS, sJ (pt + (127 : Int64)), sS, sJ (fMag cn), sS, sJ 0, sS, sJ 0, sS, sJ (fMag cn), sS, sJ 0, sS, sJ 127, sS, sI 1, sI 63, sJ 0, sS, sJ 0, sS, sJ (ushrL (fMag cn) (1 : Int32)), sS, sJ 0, sS, sJ 0, sS, sJ 0, sS, sJ 0, sS, sU, sU, sU, sU, sU, sU, sU, sU, sU, sU, sU, sU, sU, sU, sU, sU, sU, sU, sU, sU]) rfl (zXS_iconst X574.here hx rfl (hb hby d3_302) (zXS_iload X574.here hx rfl (hb hby d3_303) rfl (zXT_lload X574.here hx rfl (hb hby d3_305) rfl (zXT_lload X574.here hx rfl (hb hby d3_307) rfl (zXT_lload X574.here hx rfl (hb hby d3_309) rfl (zXT_lload X574.here hx rfl (hb hby d3_311) rfl hr))))))) ?_
  have zz575 : n0 ≤ h0.size := by omega
  refine gStaticN Gl.cl (y := (⟨"com/example/evenkeel/evenkeel/share/FlooredSum", "placed", "(IIJJJJ)J"⟩ : MethodName)) (argsL := [(.int (3 : Int32)), (.int (1 : Int32)), (.long (0 : Int64)), (.long (0 : Int64)), (.long (ushrL (fMag cn) (1 : Int32))), (.long (0 : Int64))]) (rest := []) (mc := 0) (ms := 0) X574 hx hZ hown (mvT hZ (hw _ (List.mem_of_getElem? (i := 62) rfl))) (mvT hZ (hw _ (List.mem_of_getElem? (i := 63) rfl))) (mvT hZ (hw _ (List.mem_of_getElem? (i := 6) rfl))) (mvT hZ (hw _ (List.mem_of_getElem? (i := 64) rfl))) (by decide) (backOf (W := 0) (pl31 l Z a0 hw [] (0 : Int64) (0 : Int64) (ushrL (fMag cn) (1 : Int32)) (0 : Int64) h0 n0 zz575 ) hZ (hw _ (List.mem_of_getElem? (i := 64) rfl)) (hw _ (List.mem_of_getElem? (i := 6) rfl)) (by decide) (by decide)) rfl (by rw [hml]; rfl) (lenOf pd_5 rfl) rfl (by show 2 * 0 + _ ≤ _; exact Nat.le_of_eq rfl) (hb hby d3_313) rfl e574 (by decide) (by decide) ?_
  intro v575 T575 Lc575 hQ575 X575
  obtain ⟨rfl, Nq575, e575⟩ := hQ575
  have N575 := Fr.app N574 Nq575
  refine Gl.go (fun _ hr => zXT_lstore X575.here hx rfl (hb hby d3_316) rfl (l' := #[.val (.ref x), sJ cn, sS, sJ 1, sS, sJ 0, sS, sJ (pt + (127 : Int64)), sS, sJ (fMag cn), sS, sJ 0, sS, sJ 0, sS, sJ (fMag cn), sS, sJ 0, sS, sJ 127, sS, sI 1, sI 63, sJ 0, sS, sJ 0, sS, sJ (ushrL (fMag cn) (1 : Int32)), sS, sJ 0, sS, sJ 0, sS, sJ 0, sS, sJ 0, sS, sJ (ushrL (fMag cn) (1 : Int32)), sS, sU, sU, sU, sU, sU, sU, sU, sU, sU, sU, sU, sU, sU, sU, sU, sU, sU, sU]) rfl (zXT_lloadN X575.here hx rfl (hb hby d3_318) rfl (zXT_lconst X575.here hx rfl (hb hby d3_319) (zXT_lcmp X575.here hx rfl (hb hby d3_320) rfl hr)))) ?_
  by_cases hc576 : cn < (0 : Int64)
  · refine Gl.go (fun _ hr => zXS_ifNo X575.here hx rfl (hb hby d3_321) rfl (XT.ll_ge_f hc576) (zXT_lload X575.here hx rfl (hb hby d3_324) rfl hr)) ?_
    refine Gl.go (X575.ldc2Long hx hown (mvT hZ (hw _ (List.mem_of_getElem? (i := 67) rfl))) rfl (hb hby d3_326)) ?_
    refine Gl.go (fun _ hr => zXT_lxor X575.here hx rfl (hb hby d3_329) rfl (zXT_lconst X575.here hx rfl (hb hby d3_330) (zXT_ladd X575.here hx rfl (hb hby d3_331) rfl (zXT_lstore X575.here hx rfl (hb hby d3_332) rfl (l' := #[.val (.ref x), sJ cn, sS, sJ 1, sS, sJ 0, sS, sJ (pt + (127 : Int64)), sS, sJ (fMag cn), sS, sJ 0, sS, sJ 0, sS, sJ (fMag cn), sS, sJ 0, sS, sJ 127, sS, sI 1, sI 63, sJ 0, sS, sJ 0, sS, sJ (ushrL (fMag cn) (1 : Int32)), sS, sJ 0, sS, sJ 0, sS, sJ 0, sS, sJ 0, sS, sJ (ushrL (fMag cn) (1 : Int32)), sS, sU, sU, sU, sU, sU, sU, sU, sU, sU, sU, sU, sU, sU, sU, sU, sU, sU, sU]) rfl (zXT_lload X575.here hx rfl (hb hby d3_334) rfl (zXT_lconst X575.here hx rfl (hb hby d3_336) (zXT_lcmp X575.here hx rfl (hb hby d3_337) rfl (zXS_ifNo X575.here hx rfl (hb hby d3_338) rfl (XT.ll_ne_f (by decide)) (zXT_lconst X575.here hx rfl (hb hby d3_341) (zXS_goto X575.here hx rfl (pc0 := 342) (pc' := 346) rfl (hb hby d3_342) (by decide) (by decide) (zXT_lstore X575.here hx rfl (hb hby d3_346) rfl (l' := #[.val (.ref x), sJ cn, sS, sJ 1, sS, sJ 0, sS, sJ (pt + (127 : Int64)), sS, sJ (fMag cn), sS, sJ 0, sS, sJ 0, sS, sJ (fMag cn), sS, sJ 0, sS, sJ 127, sS, sI 1, sI 63, sJ 0, sS, sJ 0, sS, sJ (ushrL (fMag cn) (1 : Int32)), sS, sJ 0, sS, sJ 0, sS, sJ 0, sS, sJ 0, sS, sJ (ushrL (fMag cn) (1 : Int32)), sS, sJ 1, sS, sU, sU, sU, sU, sU, sU, sU, sU, sU, sU, sU, sU, sU, sU, sU, sU]) rfl (zXT_lload X575.here hx rfl (hb hby d3_348) rfl hr)))))))))))) ?_
    refine Gl.go (X575.ldc2Long hx hown (mvT hZ (hw _ (List.mem_of_getElem? (i := 67) rfl))) rfl (hb hby d3_350)) ?_
    refine Gl.go (fun _ hr => zXT_lxor X575.here hx rfl (hb hby d3_353) rfl (zXT_lload X575.here hx rfl (hb hby d3_354) rfl (zXT_ladd X575.here hx rfl (hb hby d3_356) rfl (zXT_lstore X575.here hx rfl (hb hby d3_357) rfl (l' := #[.val (.ref x), sJ cn, sS, sJ 1, sS, sJ 0, sS, sJ (pt + (127 : Int64)), sS, sJ (fMag cn), sS, sJ 0, sS, sJ 0, sS, sJ (fMag cn), sS, sJ 0, sS, sJ 127, sS, sI 1, sI 63, sJ 0, sS, sJ 0, sS, sJ (ushrL (fMag cn) (1 : Int32)), sS, sJ 0, sS, sJ 0, sS, sJ 0, sS, sJ 0, sS, sJ (ushrL (fMag cn) (1 : Int32)), sS, sJ 1, sS, sU, sU, sU, sU, sU, sU, sU, sU, sU, sU, sU, sU, sU, sU, sU, sU]) rfl (zXT_lload X575.here hx rfl (hb hby d3_359) rfl (zXT_lconst X575.here hx rfl (hb hby d3_361) (zXT_lcmp X575.here hx rfl (hb hby d3_362) rfl (zXS_ifNo X575.here hx rfl (hb hby d3_363) rfl (XT.ll_ne_f (by decide)) (zXT_lload X575.here hx rfl (hb hby d3_366) rfl (zXT_lconst X575.here hx rfl (hb hby d3_368) (zXT_lcmp X575.here hx rfl (hb hby d3_369) rfl (zXS_ifNo X575.here hx rfl (hb hby d3_370) rfl (XT.ll_ne_f (by decide)) (zXT_lconst X575.here hx rfl (hb hby d3_373) (zXS_goto X575.here hx rfl (pc0 := 374) (pc' := 378) rfl (hb hby d3_374) (by decide) (by decide) (zXT_lstore X575.here hx rfl (hb hby d3_378) rfl (l' := #[.val (.ref x), sJ cn, sS, sJ 1, sS, sJ 0, sS, sJ (pt + (127 : Int64)), sS, sJ (fMag cn), sS, sJ 0, sS, sJ 0, sS, sJ (fMag cn), sS, sJ 0, sS, sJ 127, sS, sI 1, sI 63, sJ 0, sS, sJ 0, sS, sJ (ushrL (fMag cn) (1 : Int32)), sS, sJ 0, sS, sJ 0, sS, sJ 0, sS, sJ 0, sS, sJ (ushrL (fMag cn) (1 : Int32)), sS, sJ 1, sS, sJ 1, sS, sU, sU, sU, sU, sU, sU, sU, sU, sU, sU, sU, sU, sU, sU]) rfl (zXT_lload X575.here hx rfl (hb hby d3_380) rfl hr)))))))))))))))) ?_
    refine Gl.go (X575.ldc2Long hx hown (mvT hZ (hw _ (List.mem_of_getElem? (i := 67) rfl))) rfl (hb hby d3_382)) ?_
    refine Gl.go (fun _ hr => zXT_lxor X575.here hx rfl (hb hby d3_385) rfl (zXT_lload X575.here hx rfl (hb hby d3_386) rfl (zXT_ladd X575.here hx rfl (hb hby d3_388) rfl (zXT_lstore X575.here hx rfl (hb hby d3_389) rfl (l' := #[.val (.ref x), sJ cn, sS, sJ 1, sS, sJ 0, sS, sJ (pt + (127 : Int64)), sS, sJ (fMag cn), sS, sJ 0, sS, sJ 0, sS, sJ (fMag cn), sS, sJ 0, sS, sJ 127, sS, sI 1, sI 63, sJ 0, sS, sJ 0, sS, sJ (ushrL (fMag cn) (1 : Int32)), sS, sJ 0, sS, sJ 0, sS, sJ 0, sS, sJ 0, sS, sJ (ushrL (fMag cn) (1 : Int32)), sS, sJ 1, sS, sJ 1, sS, sU, sU, sU, sU, sU, sU, sU, sU, sU, sU, sU, sU, sU, sU]) rfl (zXT_lload X575.here hx rfl (hb hby d3_391) rfl (zXT_lconst X575.here hx rfl (hb hby d3_393) (zXT_lcmp X575.here hx rfl (hb hby d3_394) rfl (zXS_ifNo X575.here hx rfl (hb hby d3_395) rfl (XT.ll_ne_f (by decide)) (zXT_lload X575.here hx rfl (hb hby d3_398) rfl (zXT_lconst X575.here hx rfl (hb hby d3_400) (zXT_lcmp X575.here hx rfl (hb hby d3_401) rfl (zXS_ifNo X575.here hx rfl (hb hby d3_402) rfl (XT.ll_ne_f (by decide)) (zXT_lconst X575.here hx rfl (hb hby d3_405) (zXS_goto X575.here hx rfl (pc0 := 406) (pc' := 410) rfl (hb hby d3_406) (by decide) (by decide) (zXT_lstore X575.here hx rfl (hb hby d3_410) rfl (l' := #[.val (.ref x), sJ cn, sS, sJ 1, sS, sJ 0, sS, sJ (pt + (127 : Int64)), sS, sJ (fMag cn), sS, sJ 0, sS, sJ 0, sS, sJ (fMag cn), sS, sJ 0, sS, sJ 127, sS, sI 1, sI 63, sJ 0, sS, sJ 0, sS, sJ (ushrL (fMag cn) (1 : Int32)), sS, sJ 0, sS, sJ 0, sS, sJ 0, sS, sJ 0, sS, sJ (ushrL (fMag cn) (1 : Int32)), sS, sJ 1, sS, sJ 1, sS, sJ 1, sS, sU, sU, sU, sU, sU, sU, sU, sU, sU, sU, sU, sU]) rfl (zXT_lload X575.here hx rfl (hb hby d3_412) rfl hr)))))))))))))))) ?_
    refine Gl.go (X575.ldc2Long hx hown (mvT hZ (hw _ (List.mem_of_getElem? (i := 67) rfl))) rfl (hb hby d3_414)) ?_
    refine Gl.go (fun _ hr => zXT_lxor X575.here hx rfl (hb hby d3_417) rfl (zXT_lload X575.here hx rfl (hb hby d3_418) rfl (zXT_ladd X575.here hx rfl (hb hby d3_420) rfl hr))) ?_
    show Gl p.tables e below _ (T575.setTop (mkF m 421 #[.val (.ref x), sJ cn, sS, sJ 1, sS, sJ 0, sS, sJ (pt + (127 : Int64)), sS, sJ (fMag cn), sS, sJ 0, sS, sJ 0, sS, sJ (fMag cn), sS, sJ 0, sS, sJ 127, sS, sI 1, sI 63, sJ 0, sS, sJ 0, sS, sJ (ushrL (fMag cn) (1 : Int32)), sS, sJ 0, sS, sJ 0, sS, sJ 0, sS, sJ 0, sS, sJ (ushrL (fMag cn) (1 : Int32)), sS, sJ 1, sS, sJ 1, sS, sJ 1, sS, sU, sU, sU, sU, sU, sU, sU, sU, sU, sU, sU, sU] [(.long (((ushrL (fMag cn) (1 : Int32)) ^^^ (-1 : Int64)) + (1 : Int64)))]))
    rw [own_neg]
    show Gl p.tables e below _ (T575.setTop (mkF m 421 #[.val (.ref x), sJ cn, sS, sJ 1, sS, sJ 0, sS, sJ (pt + (127 : Int64)), sS, sJ (fMag cn), sS, sJ 0, sS, sJ 0, sS, sJ (fMag cn), sS, sJ 0, sS, sJ 127, sS, sI 1, sI 63, sJ 0, sS, sJ 0, sS, sJ (ushrL (fMag cn) (1 : Int32)), sS, sJ 0, sS, sJ 0, sS, sJ 0, sS, sJ 0, sS, sJ (ushrL (fMag cn) (1 : Int32)), sS, sJ 1, sS, sJ 1, sS, sJ 1, sS, sU, sU, sU, sU, sU, sU, sU, sU, sU, sU, sU, sU] [(.long (-(ushrL (fMag cn) (1 : Int32))))]))
    refine Gl.go (fun _ hr => zXT_lstore X575.here hx rfl (hb hby d3_421) rfl (l' := #[.val (.ref x), sJ cn, sS, sJ 1, sS, sJ 0, sS, sJ (pt + (127 : Int64)), sS, sJ (fMag cn), sS, sJ 0, sS, sJ 0, sS, sJ (fMag cn), sS, sJ 0, sS, sJ 127, sS, sI 1, sI 63, sJ 0, sS, sJ 0, sS, sJ (ushrL (fMag cn) (1 : Int32)), sS, sJ 0, sS, sJ 0, sS, sJ 0, sS, sJ 0, sS, sJ (-(ushrL (fMag cn) (1 : Int32))), sS, sJ 1, sS, sJ 1, sS, sJ 1, sS, sU, sU, sU, sU, sU, sU, sU, sU, sU, sU, sU, sU]) rfl (zXS_aloadN X575.here hx rfl (hb hby d3_423) rfl rfl hr)) ?_
    refine gGetF (host := "") Gl.cl X575 hx hZ hown (Or.inl (hw _ (List.mem_of_getElem? (i := 27) rfl))) Via.refl e575 q3 rfl rfl (hb hby d3_424) ?_
    intro T577 X577 e577
    refine Gl.go (fun _ hr => zXT_lload X577.here hx rfl (hb hby d3_427) rfl (zXT_ladd X577.here hx rfl (hb hby d3_429) rfl (zXT_lstore X577.here hx rfl (hb hby d3_430) rfl (l' := #[.val (.ref x), sJ cn, sS, sJ 1, sS, sJ 0, sS, sJ (pt + (127 : Int64)), sS, sJ (fMag cn), sS, sJ 0, sS, sJ 0, sS, sJ (fMag cn), sS, sJ 0, sS, sJ 127, sS, sI 1, sI 63, sJ 0, sS, sJ 0, sS, sJ (ushrL (fMag cn) (1 : Int32)), sS, sJ 0, sS, sJ 0, sS, sJ 0, sS, sJ 0, sS, sJ (-(ushrL (fMag cn) (1 : Int32))), sS, sJ (l0 + (0 : Int64)), sS, sJ 1, sS, sJ 1, sS, sU, sU, sU, sU, sU, sU, sU, sU, sU, sU, sU, sU]) rfl (zXT_lload X577.here hx rfl (hb hby d3_432) rfl (zXS_aloadN X577.here hx rfl (hb hby d3_434) rfl rfl hr))))) ?_
    refine gGetF (host := "") Gl.cl X577 hx hZ hown (Or.inl (hw _ (List.mem_of_getElem? (i := 27) rfl))) Via.refl e577 q3 rfl rfl (hb hby d3_435) ?_
    intro T578 X578 e578
    have zz579 : n0 ≤ h0.size := by omega
    refine gStaticN Gl.cl (y := (⟨"java/lang/Long", "compareUnsigned", "(JJ)I"⟩ : MethodName)) (argsL := [(.long (l0 + (0 : Int64))), (.long l0)]) (rest := []) (mc := 0) (ms := 0) X578 hx hZ hown (mvT hZ (hw _ (List.mem_of_getElem? (i := 46) rfl))) (mvT hZ (hw _ (List.mem_of_getElem? (i := 47) rfl))) (mvT hZ (hw _ (List.mem_of_getElem? (i := 48) rfl))) (mvT hZ (hw _ (List.mem_of_getElem? (i := 49) rfl))) (by decide) (backOf (W := 0) (cum l Z a0 hw [] (l0 + (0 : Int64)) l0 h0 n0 zz579 ) hZ (hw _ (List.mem_of_getElem? (i := 49) rfl)) (hw _ (List.mem_of_getElem? (i := 48) rfl)) (by decide) (by decide)) rfl (by rw [hml]; rfl) (lenOf pd_1 rfl) rfl (by show 2 * 0 + _ ≤ _; exact Nat.le_of_eq rfl) (hb hby d3_438) rfl e578 (by decide) (by decide) ?_
    intro v579 T579 Lc579 hQ579 X579
    obtain ⟨rfl, Nq579, e579⟩ := hQ579
    have N579 := Fr.app N575 Nq579
    refine Gl.go (fun _ hr => zXS_ifYes X579.here hx rfl (pc0 := 441) (pc' := 448) rfl (hb hby d3_441) rfl (XT.i0_ge_t (own_cuadd0 _)) (by decide) (by decide) (zXT_lconst X579.here hx rfl (hb hby d3_448) (zXT_lstore X579.here hx rfl (hb hby d3_449) rfl (l' := #[.val (.ref x), sJ cn, sS, sJ 1, sS, sJ 0, sS, sJ (pt + (127 : Int64)), sS, sJ (fMag cn), sS, sJ 0, sS, sJ 0, sS, sJ (fMag cn), sS, sJ 0, sS, sJ 127, sS, sI 1, sI 63, sJ 0, sS, sJ 0, sS, sJ (ushrL (fMag cn) (1 : Int32)), sS, sJ 0, sS, sJ 0, sS, sJ 0, sS, sJ 0, sS, sJ (-(ushrL (fMag cn) (1 : Int32))), sS, sJ (l0 + (0 : Int64)), sS, sJ 0, sS, sJ 1, sS, sU, sU, sU, sU, sU, sU, sU, sU, sU, sU, sU, sU]) rfl (zXS_aloadN X579.here hx rfl (hb hby d3_451) rfl rfl hr)))) ?_
    refine gGetF (host := "") Gl.cl X579 hx hZ hown (Or.inl (hw _ (List.mem_of_getElem? (i := 29) rfl))) Via.refl e579 q4 rfl rfl (hb hby d3_452) ?_
    intro T580 X580 e580
    refine Gl.go (fun _ hr => zXT_lload X580.here hx rfl (hb hby d3_455) rfl (zXT_ladd X580.here hx rfl (hb hby d3_457) rfl (zXT_lstore X580.here hx rfl (hb hby d3_458) rfl (l' := #[.val (.ref x), sJ cn, sS, sJ 1, sS, sJ 0, sS, sJ (pt + (127 : Int64)), sS, sJ (fMag cn), sS, sJ 0, sS, sJ 0, sS, sJ (fMag cn), sS, sJ 0, sS, sJ 127, sS, sI 1, sI 63, sJ 0, sS, sJ 0, sS, sJ (ushrL (fMag cn) (1 : Int32)), sS, sJ 0, sS, sJ 0, sS, sJ 0, sS, sJ 0, sS, sJ (-(ushrL (fMag cn) (1 : Int32))), sS, sJ (l0 + (0 : Int64)), sS, sJ 0, sS, sJ (l1 + (0 : Int64)), sS, sU, sU, sU, sU, sU, sU, sU, sU, sU, sU, sU, sU]) rfl (zXT_lload X580.here hx rfl (hb hby d3_460) rfl (zXT_lload X580.here hx rfl (hb hby d3_462) rfl (zXT_ladd X580.here hx rfl (hb hby d3_464) rfl (zXT_lstore X580.here hx rfl (hb hby d3_465) rfl (l' := #[.val (.ref x), sJ cn, sS, sJ 1, sS, sJ 0, sS, sJ (pt + (127 : Int64)), sS, sJ (fMag cn), sS, sJ 0, sS, sJ 0, sS, sJ (fMag cn), sS, sJ 0, sS, sJ 127, sS, sI 1, sI 63, sJ 0, sS, sJ 0, sS, sJ (ushrL (fMag cn) (1 : Int32)), sS, sJ 0, sS, sJ 0, sS, sJ 0, sS, sJ 0, sS, sJ (-(ushrL (fMag cn) (1 : Int32))), sS, sJ (l0 + (0 : Int64)), sS, sJ 0, sS, sJ (l1 + (0 : Int64)), sS, sJ ((l1 + (0 : Int64)) + (0 : Int64)), sS, sU, sU, sU, sU, sU, sU, sU, sU, sU, sU]) rfl (zXT_lload X580.here hx rfl (hb hby d3_467) rfl (zXS_aloadN X580.here hx rfl (hb hby d3_469) rfl rfl hr))))))))) ?_
    refine gGetF (host := "") Gl.cl X580 hx hZ hown (Or.inl (hw _ (List.mem_of_getElem? (i := 29) rfl))) Via.refl e580 q4 rfl rfl (hb hby d3_470) ?_
    intro T581 X581 e581
    have zz582 : n0 ≤ h0.size := by omega
    refine gStaticN Gl.cl (y := (⟨"java/lang/Long", "compareUnsigned", "(JJ)I"⟩ : MethodName)) (argsL := [(.long (l1 + (0 : Int64))), (.long l1)]) (rest := []) (mc := 0) (ms := 0) X581 hx hZ hown (mvT hZ (hw _ (List.mem_of_getElem? (i := 46) rfl))) (mvT hZ (hw _ (List.mem_of_getElem? (i := 47) rfl))) (mvT hZ (hw _ (List.mem_of_getElem? (i := 48) rfl))) (mvT hZ (hw _ (List.mem_of_getElem? (i := 49) rfl))) (by decide) (backOf (W := 0) (cum l Z a0 hw [] (l1 + (0 : Int64)) l1 h0 n0 zz582 ) hZ (hw _ (List.mem_of_getElem? (i := 49) rfl)) (hw _ (List.mem_of_getElem? (i := 48) rfl)) (by decide) (by decide)) rfl (by rw [hml]; rfl) (lenOf pd_1 rfl) rfl (by show 2 * 0 + _ ≤ _; exact Nat.le_of_eq rfl) (hb hby d3_473) rfl e581 (by decide) (by decide) ?_
    intro v582 T582 Lc582 hQ582 X582
    obtain ⟨rfl, Nq582, e582⟩ := hQ582
    have N582 := Fr.app N579 Nq582
    refine Gl.go (fun _ hr => zXS_ifNo X582.here hx rfl (hb hby d3_476) rfl (XT.i0_lt_f (own_cuadd0 _)) (zXT_lload X582.here hx rfl (hb hby d3_479) rfl (zXT_lload X582.here hx rfl (hb hby d3_481) rfl hr))) ?_
    have zz583 : n0 ≤ h0.size := by omega
    refine gStaticN Gl.cl (y := (⟨"java/lang/Long", "compareUnsigned", "(JJ)I"⟩ : MethodName)) (argsL := [(.long ((l1 + (0 : Int64)) + (0 : Int64))), (.long (l1 + (0 : Int64)))]) (rest := []) (mc := 0) (ms := 0) X582 hx hZ hown (mvT hZ (hw _ (List.mem_of_getElem? (i := 46) rfl))) (mvT hZ (hw _ (List.mem_of_getElem? (i := 47) rfl))) (mvT hZ (hw _ (List.mem_of_getElem? (i := 48) rfl))) (mvT hZ (hw _ (List.mem_of_getElem? (i := 49) rfl))) (by decide) (backOf (W := 0) (cum l Z a0 hw [] ((l1 + (0 : Int64)) + (0 : Int64)) (l1 + (0 : Int64)) h0 n0 zz583 ) hZ (hw _ (List.mem_of_getElem? (i := 49) rfl)) (hw _ (List.mem_of_getElem? (i := 48) rfl)) (by decide) (by decide)) rfl (by rw [hml]; rfl) (lenOf pd_1 rfl) rfl (by show 2 * 0 + _ ≤ _; exact Nat.le_of_eq rfl) (hb hby d3_483) rfl e582 (by decide) (by decide) ?_
    intro v583 T583 Lc583 hQ583 X583
    obtain ⟨rfl, Nq583, e583⟩ := hQ583
    have N583 := Fr.app N582 Nq583
    refine Gl.go (fun _ hr => zXS_ifYes X583.here hx rfl (pc0 := 486) (pc' := 493) rfl (hb hby d3_486) rfl (XT.i0_ge_t (own_cuadd0 _)) (by decide) (by decide) (zXT_lconst X583.here hx rfl (hb hby d3_493) (zXT_lstore X583.here hx rfl (hb hby d3_494) rfl (l' := #[.val (.ref x), sJ cn, sS, sJ 1, sS, sJ 0, sS, sJ (pt + (127 : Int64)), sS, sJ (fMag cn), sS, sJ 0, sS, sJ 0, sS, sJ (fMag cn), sS, sJ 0, sS, sJ 127, sS, sI 1, sI 63, sJ 0, sS, sJ 0, sS, sJ (ushrL (fMag cn) (1 : Int32)), sS, sJ 0, sS, sJ 0, sS, sJ 0, sS, sJ 0, sS, sJ (-(ushrL (fMag cn) (1 : Int32))), sS, sJ (l0 + (0 : Int64)), sS, sJ 0, sS, sJ (l1 + (0 : Int64)), sS, sJ ((l1 + (0 : Int64)) + (0 : Int64)), sS, sJ 0, sS, sU, sU, sU, sU, sU, sU, sU, sU]) rfl (zXS_aloadN X583.here hx rfl (hb hby d3_496) rfl rfl hr)))) ?_
    refine gGetF (host := "") Gl.cl X583 hx hZ hown (Or.inl (hw _ (List.mem_of_getElem? (i := 31) rfl))) Via.refl e583 q5 rfl rfl (hb hby d3_497) ?_
    intro T584 X584 e584
    refine Gl.go (fun _ hr => zXT_lload X584.here hx rfl (hb hby d3_500) rfl (zXT_ladd X584.here hx rfl (hb hby d3_502) rfl (zXT_lstore X584.here hx rfl (hb hby d3_503) rfl (l' := #[.val (.ref x), sJ cn, sS, sJ 1, sS, sJ 0, sS, sJ (pt + (127 : Int64)), sS, sJ (fMag cn), sS, sJ 0, sS, sJ 0, sS, sJ (fMag cn), sS, sJ 0, sS, sJ 127, sS, sI 1, sI 63, sJ 0, sS, sJ 0, sS, sJ (ushrL (fMag cn) (1 : Int32)), sS, sJ 0, sS, sJ 0, sS, sJ 0, sS, sJ 0, sS, sJ (-(ushrL (fMag cn) (1 : Int32))), sS, sJ (l0 + (0 : Int64)), sS, sJ 0, sS, sJ (l1 + (0 : Int64)), sS, sJ ((l1 + (0 : Int64)) + (0 : Int64)), sS, sJ 0, sS, sJ (l2 + (0 : Int64)), sS, sU, sU, sU, sU, sU, sU]) rfl (zXT_lload X584.here hx rfl (hb hby d3_505) rfl (zXT_lload X584.here hx rfl (hb hby d3_507) rfl (zXT_ladd X584.here hx rfl (hb hby d3_509) rfl (zXT_lstore X584.here hx rfl (hb hby d3_510) rfl (l' := #[.val (.ref x), sJ cn, sS, sJ 1, sS, sJ 0, sS, sJ (pt + (127 : Int64)), sS, sJ (fMag cn), sS, sJ 0, sS, sJ 0, sS, sJ (fMag cn), sS, sJ 0, sS, sJ 127, sS, sI 1, sI 63, sJ 0, sS, sJ 0, sS, sJ (ushrL (fMag cn) (1 : Int32)), sS, sJ 0, sS, sJ 0, sS, sJ 0, sS, sJ 0, sS, sJ (-(ushrL (fMag cn) (1 : Int32))), sS, sJ (l0 + (0 : Int64)), sS, sJ 0, sS, sJ (l1 + (0 : Int64)), sS, sJ ((l1 + (0 : Int64)) + (0 : Int64)), sS, sJ 0, sS, sJ (l2 + (0 : Int64)), sS, sJ ((l2 + (0 : Int64)) + (0 : Int64)), sS, sU, sU, sU, sU]) rfl (zXT_lload X584.here hx rfl (hb hby d3_512) rfl (zXS_aloadN X584.here hx rfl (hb hby d3_514) rfl rfl hr))))))))) ?_
    refine gGetF (host := "") Gl.cl X584 hx hZ hown (Or.inl (hw _ (List.mem_of_getElem? (i := 31) rfl))) Via.refl e584 q5 rfl rfl (hb hby d3_515) ?_
    intro T585 X585 e585
    have zz586 : n0 ≤ h0.size := by omega
    refine gStaticN Gl.cl (y := (⟨"java/lang/Long", "compareUnsigned", "(JJ)I"⟩ : MethodName)) (argsL := [(.long (l2 + (0 : Int64))), (.long l2)]) (rest := []) (mc := 0) (ms := 0) X585 hx hZ hown (mvT hZ (hw _ (List.mem_of_getElem? (i := 46) rfl))) (mvT hZ (hw _ (List.mem_of_getElem? (i := 47) rfl))) (mvT hZ (hw _ (List.mem_of_getElem? (i := 48) rfl))) (mvT hZ (hw _ (List.mem_of_getElem? (i := 49) rfl))) (by decide) (backOf (W := 0) (cum l Z a0 hw [] (l2 + (0 : Int64)) l2 h0 n0 zz586 ) hZ (hw _ (List.mem_of_getElem? (i := 49) rfl)) (hw _ (List.mem_of_getElem? (i := 48) rfl)) (by decide) (by decide)) rfl (by rw [hml]; rfl) (lenOf pd_1 rfl) rfl (by show 2 * 0 + _ ≤ _; exact Nat.le_of_eq rfl) (hb hby d3_518) rfl e585 (by decide) (by decide) ?_
    intro v586 T586 Lc586 hQ586 X586
    obtain ⟨rfl, Nq586, e586⟩ := hQ586
    have N586 := Fr.app N583 Nq586
    refine Gl.go (fun _ hr => zXS_ifNo X586.here hx rfl (hb hby d3_521) rfl (XT.i0_lt_f (own_cuadd0 _)) (zXT_lload X586.here hx rfl (hb hby d3_524) rfl (zXT_lload X586.here hx rfl (hb hby d3_526) rfl hr))) ?_
    have zz587 : n0 ≤ h0.size := by omega
    refine gStaticN Gl.cl (y := (⟨"java/lang/Long", "compareUnsigned", "(JJ)I"⟩ : MethodName)) (argsL := [(.long ((l2 + (0 : Int64)) + (0 : Int64))), (.long (l2 + (0 : Int64)))]) (rest := []) (mc := 0) (ms := 0) X586 hx hZ hown (mvT hZ (hw _ (List.mem_of_getElem? (i := 46) rfl))) (mvT hZ (hw _ (List.mem_of_getElem? (i := 47) rfl))) (mvT hZ (hw _ (List.mem_of_getElem? (i := 48) rfl))) (mvT hZ (hw _ (List.mem_of_getElem? (i := 49) rfl))) (by decide) (backOf (W := 0) (cum l Z a0 hw [] ((l2 + (0 : Int64)) + (0 : Int64)) (l2 + (0 : Int64)) h0 n0 zz587 ) hZ (hw _ (List.mem_of_getElem? (i := 49) rfl)) (hw _ (List.mem_of_getElem? (i := 48) rfl)) (by decide) (by decide)) rfl (by rw [hml]; rfl) (lenOf pd_1 rfl) rfl (by show 2 * 0 + _ ≤ _; exact Nat.le_of_eq rfl) (hb hby d3_528) rfl e586 (by decide) (by decide) ?_
    intro v587 T587 Lc587 hQ587 X587
    obtain ⟨rfl, Nq587, e587⟩ := hQ587
    have N587 := Fr.app N586 Nq587
    refine Gl.go (fun _ hr => zXS_ifYes X587.here hx rfl (pc0 := 531) (pc' := 538) rfl (hb hby d3_531) rfl (XT.i0_ge_t (own_cuadd0 _)) (by decide) (by decide) (zXT_lconst X587.here hx rfl (hb hby d3_538) (zXT_lstore X587.here hx rfl (hb hby d3_539) rfl (l' := #[.val (.ref x), sJ cn, sS, sJ 1, sS, sJ 0, sS, sJ (pt + (127 : Int64)), sS, sJ (fMag cn), sS, sJ 0, sS, sJ 0, sS, sJ (fMag cn), sS, sJ 0, sS, sJ 127, sS, sI 1, sI 63, sJ 0, sS, sJ 0, sS, sJ (ushrL (fMag cn) (1 : Int32)), sS, sJ 0, sS, sJ 0, sS, sJ 0, sS, sJ 0, sS, sJ (-(ushrL (fMag cn) (1 : Int32))), sS, sJ (l0 + (0 : Int64)), sS, sJ 0, sS, sJ (l1 + (0 : Int64)), sS, sJ ((l1 + (0 : Int64)) + (0 : Int64)), sS, sJ 0, sS, sJ (l2 + (0 : Int64)), sS, sJ ((l2 + (0 : Int64)) + (0 : Int64)), sS, sJ 0, sS, sU, sU]) rfl (zXS_aloadN X587.here hx rfl (hb hby d3_541) rfl rfl hr)))) ?_
    refine gGetF (host := "") Gl.cl X587 hx hZ hown (Or.inl (hw _ (List.mem_of_getElem? (i := 33) rfl))) Via.refl e587 q6 rfl rfl (hb hby d3_542) ?_
    intro T588 X588 e588
    refine Gl.go (fun _ hr => zXT_lload X588.here hx rfl (hb hby d3_545) rfl (zXT_ladd X588.here hx rfl (hb hby d3_547) rfl (zXT_lload X588.here hx rfl (hb hby d3_548) rfl (zXT_ladd X588.here hx rfl (hb hby d3_550) rfl (zXT_lstore X588.here hx rfl (hb hby d3_551) rfl (l' := #[.val (.ref x), sJ cn, sS, sJ 1, sS, sJ 0, sS, sJ (pt + (127 : Int64)), sS, sJ (fMag cn), sS, sJ 0, sS, sJ 0, sS, sJ (fMag cn), sS, sJ 0, sS, sJ 127, sS, sI 1, sI 63, sJ 0, sS, sJ 0, sS, sJ (ushrL (fMag cn) (1 : Int32)), sS, sJ 0, sS, sJ 0, sS, sJ 0, sS, sJ 0, sS, sJ (-(ushrL (fMag cn) (1 : Int32))), sS, sJ (l0 + (0 : Int64)), sS, sJ 0, sS, sJ (l1 + (0 : Int64)), sS, sJ ((l1 + (0 : Int64)) + (0 : Int64)), sS, sJ 0, sS, sJ (l2 + (0 : Int64)), sS, sJ ((l2 + (0 : Int64)) + (0 : Int64)), sS, sJ 0, sS, sJ ((l3 + (-(ushrL (fMag cn) (1 : Int32)))) + (0 : Int64)), sS]) rfl (zXS_aloadN X588.here hx rfl (hb hby d3_553) rfl rfl hr)))))) ?_
    refine gGetF (host := "") Gl.cl X588 hx hZ hown (Or.inl (hw _ (List.mem_of_getElem? (i := 33) rfl))) Via.refl e588 q6 rfl rfl (hb hby d3_554) ?_
    intro T589 X589 e589
    refine Gl.go (fun _ hr => zXT_lload X589.here hx rfl (hb hby d3_557) rfl (zXT_lxor X589.here hx rfl (hb hby d3_559) rfl (zXT_lload X589.here hx rfl (hb hby d3_560) rfl (zXT_lload X589.here hx rfl (hb hby d3_562) rfl (zXT_lxor X589.here hx rfl (hb hby d3_564) rfl (zXT_land X589.here hx rfl (hb hby d3_565) rfl (zXT_lconst X589.here hx rfl (hb hby d3_566) (zXT_lcmp X589.here hx rfl (hb hby d3_567) rfl hr)))))))) ?_
    refine Gl.go (fun _ hr => zXS_ifYes X589.here hx rfl (pc0 := 568) (pc' := 581) rfl (hb hby d3_568) rfl (XT.ll_ge_t (own_ov3 hl3 hb2)) (by decide) (by decide) (zXS_aloadN X589.here hx rfl (hb hby d3_581) rfl rfl (zXT_lload X589.here hx rfl (hb hby d3_582) rfl hr))) ?_
    refine gPutF (host := "") Gl.cl X589 hx hZ hown (Or.inl (hw _ (List.mem_of_getElem? (i := 27) rfl))) Via.refl e589 q3 q0 (Or.inl (hw _ (List.mem_of_getElem? (i := 28) rfl))) (hw _ (List.mem_of_getElem? (i := 5) rfl)) (ty := .long) (by decide) rfl rfl rfl rfl (hb hby d3_584) ?_
    intro T590 h590 X590 e590 W590
    have z591 : h0.size ≤ h590.size := (Keep.of_wr W590).1
    have Fw590 := q3.same W590
    have N590 := Fr.snoc X590 N587 (own_ale (by omega))
    refine Gl.go (fun _ hr => zXS_aloadN X590.here hx rfl (hb hby d3_587) rfl rfl (zXT_lload X590.here hx rfl (hb hby d3_588) rfl hr)) ?_
    have Fc592 := (q4.other W590 (Or.inr (slot_ne (Or.inl (hw _ (List.mem_of_getElem? (i := 30) rfl))) (Or.inl (hw _ (List.mem_of_getElem? (i := 28) rfl))) (by decide) (t := .long) (t' := .long) (by decide) (by decide))))
    have Ec593 := (q0.wr W590)
    refine gPutF (host := "") Gl.cl X590 hx hZ hown (Or.inl (hw _ (List.mem_of_getElem? (i := 29) rfl))) Via.refl e590 Fc592 Ec593 (Or.inl (hw _ (List.mem_of_getElem? (i := 30) rfl))) (hw _ (List.mem_of_getElem? (i := 5) rfl)) (ty := .long) (by decide) rfl rfl rfl rfl (hb hby d3_590) ?_
    intro T594 h594 X594 e594 W594
    have z595 : h590.size ≤ h594.size := (Keep.of_wr W594).1
    have Fw594 := Fc592.same W594
    have N594 := Fr.snoc X594 N590 (own_ale (by omega))
    refine Gl.go (fun _ hr => zXS_aloadN X594.here hx rfl (hb hby d3_593) rfl rfl (zXT_lload X594.here hx rfl (hb hby d3_594) rfl hr)) ?_
    have Fc596 := ((q5.other W590 (Or.inr (slot_ne (Or.inl (hw _ (List.mem_of_getElem? (i := 32) rfl))) (Or.inl (hw _ (List.mem_of_getElem? (i := 28) rfl))) (by decide) (t := .long) (t' := .long) (by decide) (by decide)))).other W594 (Or.inr (slot_ne (Or.inl (hw _ (List.mem_of_getElem? (i := 32) rfl))) (Or.inl (hw _ (List.mem_of_getElem? (i := 30) rfl))) (by decide) (t := .long) (t' := .long) (by decide) (by decide))))
    have Ec597 := (Ec593.wr W594)
    refine gPutF (host := "") Gl.cl X594 hx hZ hown (Or.inl (hw _ (List.mem_of_getElem? (i := 31) rfl))) Via.refl e594 Fc596 Ec597 (Or.inl (hw _ (List.mem_of_getElem? (i := 32) rfl))) (hw _ (List.mem_of_getElem? (i := 5) rfl)) (ty := .long) (by decide) rfl rfl rfl rfl (hb hby d3_596) ?_
    intro T598 h598 X598 e598 W598
    have z599 : h594.size ≤ h598.size := (Keep.of_wr W598).1
    have Fw598 := Fc596.same W598
    have N598 := Fr.snoc X598 N594 (own_ale (by omega))
    refine Gl.go (fun _ hr => zXS_aloadN X598.here hx rfl (hb hby d3_599) rfl rfl (zXT_lload X598.here hx rfl (hb hby d3_600) rfl hr)) ?_
    have Fc600 := (((q6.other W590 (Or.inr (slot_ne (Or.inl (hw _ (List.mem_of_getElem? (i := 34) rfl))) (Or.inl (hw _ (List.mem_of_getElem? (i := 28) rfl))) (by decide) (t := .long) (t' := .long) (by decide) (by decide)))).other W594 (Or.inr (slot_ne (Or.inl (hw _ (List.mem_of_getElem? (i := 34) rfl))) (Or.inl (hw _ (List.mem_of_getElem? (i := 30) rfl))) (by decide) (t := .long) (t' := .long) (by decide) (by decide)))).other W598 (Or.inr (slot_ne (Or.inl (hw _ (List.mem_of_getElem? (i := 34) rfl))) (Or.inl (hw _ (List.mem_of_getElem? (i := 32) rfl))) (by decide) (t := .long) (t' := .long) (by decide) (by decide))))
    have Ec601 := (Ec597.wr W598)
    refine gPutF (host := "") Gl.cl X598 hx hZ hown (Or.inl (hw _ (List.mem_of_getElem? (i := 33) rfl))) Via.refl e598 Fc600 Ec601 (Or.inl (hw _ (List.mem_of_getElem? (i := 34) rfl))) (hw _ (List.mem_of_getElem? (i := 5) rfl)) (ty := .long) (by decide) rfl rfl rfl rfl (hb hby d3_602) ?_
    intro T602 h602 X602 e602 W602
    have z603 : h598.size ≤ h602.size := (Keep.of_wr W602).1
    have Fw602 := Fc600.same W602
    have N602 := Fr.snoc X602 N598 (own_ale (by omega))
    refine Gl.go (fun _ hr => zXS_aloadN X602.here hx rfl (hb hby d3_605) rfl rfl (zXS_iconst X602.here hx rfl (hb hby d3_606) hr)) ?_
    have Fc604 := ((((q7.other W590 (Or.inr (slot_ne (Or.inl (hw _ (List.mem_of_getElem? (i := 66) rfl))) (Or.inl (hw _ (List.mem_of_getElem? (i := 28) rfl))) (by decide) (t := .boolean) (t' := .long) (by decide) (by decide)))).other W594 (Or.inr (slot_ne (Or.inl (hw _ (List.mem_of_getElem? (i := 66) rfl))) (Or.inl (hw _ (List.mem_of_getElem? (i := 30) rfl))) (by decide) (t := .boolean) (t' := .long) (by decide) (by decide)))).other W598 (Or.inr (slot_ne (Or.inl (hw _ (List.mem_of_getElem? (i := 66) rfl))) (Or.inl (hw _ (List.mem_of_getElem? (i := 32) rfl))) (by decide) (t := .boolean) (t' := .long) (by decide) (by decide)))).other W602 (Or.inr (slot_ne (Or.inl (hw _ (List.mem_of_getElem? (i := 66) rfl))) (Or.inl (hw _ (List.mem_of_getElem? (i := 34) rfl))) (by decide) (t := .boolean) (t' := .long) (by decide) (by decide))))
    have Ec605 := (Ec601.wr W602)
    refine gPutF (host := "") Gl.cl X602 hx hZ hown (Or.inl (hw _ (List.mem_of_getElem? (i := 65) rfl))) Via.refl e602 Fc604 Ec605 (Or.inl (hw _ (List.mem_of_getElem? (i := 66) rfl))) (hw _ (List.mem_of_getElem? (i := 5) rfl)) (ty := .boolean) (by decide) rfl rfl rfl rfl (hb hby d3_607) ?_
    intro T606 h606 X606 e606 W606
    have z607 : h602.size ≤ h606.size := (Keep.of_wr W606).1
    have Fw606 := Fc604.same W606
    have N606 := Fr.snoc X606 N602 (own_ale (by omega))
    have Ec608 := (Ec605.wr W606)
    have Fc609 := (((((q2.other W590 (Or.inr (slot_ne (Or.inl (hw _ (List.mem_of_getElem? (i := 15) rfl))) (Or.inl (hw _ (List.mem_of_getElem? (i := 28) rfl))) (by decide) (t := .long) (t' := .long) (by decide) (by decide)))).other W594 (Or.inr (slot_ne (Or.inl (hw _ (List.mem_of_getElem? (i := 15) rfl))) (Or.inl (hw _ (List.mem_of_getElem? (i := 30) rfl))) (by decide) (t := .long) (t' := .long) (by decide) (by decide)))).other W598 (Or.inr (slot_ne (Or.inl (hw _ (List.mem_of_getElem? (i := 15) rfl))) (Or.inl (hw _ (List.mem_of_getElem? (i := 32) rfl))) (by decide) (t := .long) (t' := .long) (by decide) (by decide)))).other W602 (Or.inr (slot_ne (Or.inl (hw _ (List.mem_of_getElem? (i := 15) rfl))) (Or.inl (hw _ (List.mem_of_getElem? (i := 34) rfl))) (by decide) (t := .long) (t' := .long) (by decide) (by decide)))).other W606 (Or.inr (slot_ne (Or.inl (hw _ (List.mem_of_getElem? (i := 15) rfl))) (Or.inl (hw _ (List.mem_of_getElem? (i := 66) rfl))) (by decide) (t := .long) (t' := .boolean) (by decide) (by decide))))
    have Fc610 := ((((Fw590.other W594 (Or.inr (slot_ne (Or.inl (hw _ (List.mem_of_getElem? (i := 28) rfl))) (Or.inl (hw _ (List.mem_of_getElem? (i := 30) rfl))) (by decide) (t := .long) (t' := .long) (by decide) (by decide)))).other W598 (Or.inr (slot_ne (Or.inl (hw _ (List.mem_of_getElem? (i := 28) rfl))) (Or.inl (hw _ (List.mem_of_getElem? (i := 32) rfl))) (by decide) (t := .long) (t' := .long) (by decide) (by decide)))).other W602 (Or.inr (slot_ne (Or.inl (hw _ (List.mem_of_getElem? (i := 28) rfl))) (Or.inl (hw _ (List.mem_of_getElem? (i := 34) rfl))) (by decide) (t := .long) (t' := .long) (by decide) (by decide)))).other W606 (Or.inr (slot_ne (Or.inl (hw _ (List.mem_of_getElem? (i := 28) rfl))) (Or.inl (hw _ (List.mem_of_getElem? (i := 66) rfl))) (by decide) (t := .long) (t' := .boolean) (by decide) (by decide))))
    have Fc611 := (((Fw594.other W598 (Or.inr (slot_ne (Or.inl (hw _ (List.mem_of_getElem? (i := 30) rfl))) (Or.inl (hw _ (List.mem_of_getElem? (i := 32) rfl))) (by decide) (t := .long) (t' := .long) (by decide) (by decide)))).other W602 (Or.inr (slot_ne (Or.inl (hw _ (List.mem_of_getElem? (i := 30) rfl))) (Or.inl (hw _ (List.mem_of_getElem? (i := 34) rfl))) (by decide) (t := .long) (t' := .long) (by decide) (by decide)))).other W606 (Or.inr (slot_ne (Or.inl (hw _ (List.mem_of_getElem? (i := 30) rfl))) (Or.inl (hw _ (List.mem_of_getElem? (i := 66) rfl))) (by decide) (t := .long) (t' := .boolean) (by decide) (by decide))))
    have Fc612 := ((Fw598.other W602 (Or.inr (slot_ne (Or.inl (hw _ (List.mem_of_getElem? (i := 32) rfl))) (Or.inl (hw _ (List.mem_of_getElem? (i := 34) rfl))) (by decide) (t := .long) (t' := .long) (by decide) (by decide)))).other W606 (Or.inr (slot_ne (Or.inl (hw _ (List.mem_of_getElem? (i := 32) rfl))) (Or.inl (hw _ (List.mem_of_getElem? (i := 66) rfl))) (by decide) (t := .long) (t' := .boolean) (by decide) (by decide))))
    have Fc613 := (Fw602.other W606 (Or.inr (slot_ne (Or.inl (hw _ (List.mem_of_getElem? (i := 34) rfl))) (Or.inl (hw _ (List.mem_of_getElem? (i := 66) rfl))) (by decide) (t := .long) (t' := .boolean) (by decide) (by decide))))
    obtain ⟨fs, hr, hrun, hended, hW, hsame⟩ := X606.leave (v := none) (fun _ => rfl)
    refine ⟨_, _, X606.returnOut hx Bd.returns (hb hby d3_610) hr, hrun, hended, _, _, rfl, ?_, ⟨⟨_, rfl⟩, hW, hsame.mono (by decide) (by decide)⟩⟩
    show QaddB3 Z x cn pt l0 l1 l2 l3 h0 n0 _ T606.heap _
    rw [e606]
    exact ⟨(l0 + (0 : Int64)), ((l1 + (0 : Int64)) + (0 : Int64)), ((l2 + (0 : Int64)) + (0 : Int64)), ((l3 + (-(ushrL (fMag cn) (1 : Int32)))) + (0 : Int64)), rfl, N606, ((((((Keep.refl h0 [x]).wr W590 (Or.inl (by simp))).wr W594 (Or.inl (by simp))).wr W598 (Or.inl (by simp))).wr W602 (Or.inl (by simp))).wr W606 (Or.inl (by simp))), Ec608, Fc609, Fc610, Fc611, Fc612, Fc613, Fw606, (own_add_ne0 hneg)⟩
  · refine Gl.go (fun _ hr => zXS_ifYes X575.here hx rfl (pc0 := 321) (pc' := 423) rfl (hb hby d3_321) rfl (XT.ll_ge_t hc576) (by decide) (by decide) (zXS_aloadN X575.here hx rfl (hb hby d3_423) rfl rfl hr)) ?_
    refine gGetF (host := "") Gl.cl X575 hx hZ hown (Or.inl (hw _ (List.mem_of_getElem? (i := 27) rfl))) Via.refl e575 q3 rfl rfl (hb hby d3_424) ?_
    intro T614 X614 e614
    refine Gl.go (fun _ hr => zXT_lload X614.here hx rfl (hb hby d3_427) rfl (zXT_ladd X614.here hx rfl (hb hby d3_429) rfl (zXT_lstore X614.here hx rfl (hb hby d3_430) rfl (l' := #[.val (.ref x), sJ cn, sS, sJ 1, sS, sJ 0, sS, sJ (pt + (127 : Int64)), sS, sJ (fMag cn), sS, sJ 0, sS, sJ 0, sS, sJ (fMag cn), sS, sJ 0, sS, sJ 127, sS, sI 1, sI 63, sJ 0, sS, sJ 0, sS, sJ (ushrL (fMag cn) (1 : Int32)), sS, sJ 0, sS, sJ 0, sS, sJ 0, sS, sJ 0, sS, sJ (ushrL (fMag cn) (1 : Int32)), sS, sJ (l0 + (0 : Int64)), sS, sU, sU, sU, sU, sU, sU, sU, sU, sU, sU, sU, sU, sU, sU, sU, sU]) rfl (zXT_lload X614.here hx rfl (hb hby d3_432) rfl (zXS_aloadN X614.here hx rfl (hb hby d3_434) rfl rfl hr))))) ?_
    refine gGetF (host := "") Gl.cl X614 hx hZ hown (Or.inl (hw _ (List.mem_of_getElem? (i := 27) rfl))) Via.refl e614 q3 rfl rfl (hb hby d3_435) ?_
    intro T615 X615 e615
    have zz616 : n0 ≤ h0.size := by omega
    refine gStaticN Gl.cl (y := (⟨"java/lang/Long", "compareUnsigned", "(JJ)I"⟩ : MethodName)) (argsL := [(.long (l0 + (0 : Int64))), (.long l0)]) (rest := []) (mc := 0) (ms := 0) X615 hx hZ hown (mvT hZ (hw _ (List.mem_of_getElem? (i := 46) rfl))) (mvT hZ (hw _ (List.mem_of_getElem? (i := 47) rfl))) (mvT hZ (hw _ (List.mem_of_getElem? (i := 48) rfl))) (mvT hZ (hw _ (List.mem_of_getElem? (i := 49) rfl))) (by decide) (backOf (W := 0) (cum l Z a0 hw [] (l0 + (0 : Int64)) l0 h0 n0 zz616 ) hZ (hw _ (List.mem_of_getElem? (i := 49) rfl)) (hw _ (List.mem_of_getElem? (i := 48) rfl)) (by decide) (by decide)) rfl (by rw [hml]; rfl) (lenOf pd_1 rfl) rfl (by show 2 * 0 + _ ≤ _; exact Nat.le_of_eq rfl) (hb hby d3_438) rfl e615 (by decide) (by decide) ?_
    intro v616 T616 Lc616 hQ616 X616
    obtain ⟨rfl, Nq616, e616⟩ := hQ616
    have N616 := Fr.app N575 Nq616
    refine Gl.go (fun _ hr => zXS_ifYes X616.here hx rfl (pc0 := 441) (pc' := 448) rfl (hb hby d3_441) rfl (XT.i0_ge_t (own_cuadd0 _)) (by decide) (by decide) (zXT_lconst X616.here hx rfl (hb hby d3_448) (zXT_lstore X616.here hx rfl (hb hby d3_449) rfl (l' := #[.val (.ref x), sJ cn, sS, sJ 1, sS, sJ 0, sS, sJ (pt + (127 : Int64)), sS, sJ (fMag cn), sS, sJ 0, sS, sJ 0, sS, sJ (fMag cn), sS, sJ 0, sS, sJ 127, sS, sI 1, sI 63, sJ 0, sS, sJ 0, sS, sJ (ushrL (fMag cn) (1 : Int32)), sS, sJ 0, sS, sJ 0, sS, sJ 0, sS, sJ 0, sS, sJ (ushrL (fMag cn) (1 : Int32)), sS, sJ (l0 + (0 : Int64)), sS, sJ 0, sS, sU, sU, sU, sU, sU, sU, sU, sU, sU, sU, sU, sU, sU, sU]) rfl (zXS_aloadN X616.here hx rfl (hb hby d3_451) rfl rfl hr)))) ?_
    refine gGetF (host := "") Gl.cl X616 hx hZ hown (Or.inl (hw _ (List.mem_of_getElem? (i := 29) rfl))) Via.refl e616 q4 rfl rfl (hb hby d3_452) ?_
    intro T617 X617 e617
    refine Gl.go (fun _ hr => zXT_lload X617.here hx rfl (hb hby d3_455) rfl (zXT_ladd X617.here hx rfl (hb hby d3_457) rfl (zXT_lstore X617.here hx rfl (hb hby d3_458) rfl (l' := #[.val (.ref x), sJ cn, sS, sJ 1, sS, sJ 0, sS, sJ (pt + (127 : Int64)), sS, sJ (fMag cn), sS, sJ 0, sS, sJ 0, sS, sJ (fMag cn), sS, sJ 0, sS, sJ 127, sS, sI 1, sI 63, sJ 0, sS, sJ 0, sS, sJ (ushrL (fMag cn) (1 : Int32)), sS, sJ 0, sS, sJ 0, sS, sJ 0, sS, sJ 0, sS, sJ (ushrL (fMag cn) (1 : Int32)), sS, sJ (l0 + (0 : Int64)), sS, sJ 0, sS, sJ (l1 + (0 : Int64)), sS, sU, sU, sU, sU, sU, sU, sU, sU, sU, sU, sU, sU]) rfl (zXT_lload X617.here hx rfl (hb hby d3_460) rfl (zXT_lload X617.here hx rfl (hb hby d3_462) rfl (zXT_ladd X617.here hx rfl (hb hby d3_464) rfl (zXT_lstore X617.here hx rfl (hb hby d3_465) rfl (l' := #[.val (.ref x), sJ cn, sS, sJ 1, sS, sJ 0, sS, sJ (pt + (127 : Int64)), sS, sJ (fMag cn), sS, sJ 0, sS, sJ 0, sS, sJ (fMag cn), sS, sJ 0, sS, sJ 127, sS, sI 1, sI 63, sJ 0, sS, sJ 0, sS, sJ (ushrL (fMag cn) (1 : Int32)), sS, sJ 0, sS, sJ 0, sS, sJ 0, sS, sJ 0, sS, sJ (ushrL (fMag cn) (1 : Int32)), sS, sJ (l0 + (0 : Int64)), sS, sJ 0, sS, sJ (l1 + (0 : Int64)), sS, sJ ((l1 + (0 : Int64)) + (0 : Int64)), sS, sU, sU, sU, sU, sU, sU, sU, sU, sU, sU]) rfl (zXT_lload X617.here hx rfl (hb hby d3_467) rfl (zXS_aloadN X617.here hx rfl (hb hby d3_469) rfl rfl hr))))))))) ?_
    refine gGetF (host := "") Gl.cl X617 hx hZ hown (Or.inl (hw _ (List.mem_of_getElem? (i := 29) rfl))) Via.refl e617 q4 rfl rfl (hb hby d3_470) ?_
    intro T618 X618 e618
    have zz619 : n0 ≤ h0.size := by omega
    refine gStaticN Gl.cl (y := (⟨"java/lang/Long", "compareUnsigned", "(JJ)I"⟩ : MethodName)) (argsL := [(.long (l1 + (0 : Int64))), (.long l1)]) (rest := []) (mc := 0) (ms := 0) X618 hx hZ hown (mvT hZ (hw _ (List.mem_of_getElem? (i := 46) rfl))) (mvT hZ (hw _ (List.mem_of_getElem? (i := 47) rfl))) (mvT hZ (hw _ (List.mem_of_getElem? (i := 48) rfl))) (mvT hZ (hw _ (List.mem_of_getElem? (i := 49) rfl))) (by decide) (backOf (W := 0) (cum l Z a0 hw [] (l1 + (0 : Int64)) l1 h0 n0 zz619 ) hZ (hw _ (List.mem_of_getElem? (i := 49) rfl)) (hw _ (List.mem_of_getElem? (i := 48) rfl)) (by decide) (by decide)) rfl (by rw [hml]; rfl) (lenOf pd_1 rfl) rfl (by show 2 * 0 + _ ≤ _; exact Nat.le_of_eq rfl) (hb hby d3_473) rfl e618 (by decide) (by decide) ?_
    intro v619 T619 Lc619 hQ619 X619
    obtain ⟨rfl, Nq619, e619⟩ := hQ619
    have N619 := Fr.app N616 Nq619
    refine Gl.go (fun _ hr => zXS_ifNo X619.here hx rfl (hb hby d3_476) rfl (XT.i0_lt_f (own_cuadd0 _)) (zXT_lload X619.here hx rfl (hb hby d3_479) rfl (zXT_lload X619.here hx rfl (hb hby d3_481) rfl hr))) ?_
    have zz620 : n0 ≤ h0.size := by omega
    refine gStaticN Gl.cl (y := (⟨"java/lang/Long", "compareUnsigned", "(JJ)I"⟩ : MethodName)) (argsL := [(.long ((l1 + (0 : Int64)) + (0 : Int64))), (.long (l1 + (0 : Int64)))]) (rest := []) (mc := 0) (ms := 0) X619 hx hZ hown (mvT hZ (hw _ (List.mem_of_getElem? (i := 46) rfl))) (mvT hZ (hw _ (List.mem_of_getElem? (i := 47) rfl))) (mvT hZ (hw _ (List.mem_of_getElem? (i := 48) rfl))) (mvT hZ (hw _ (List.mem_of_getElem? (i := 49) rfl))) (by decide) (backOf (W := 0) (cum l Z a0 hw [] ((l1 + (0 : Int64)) + (0 : Int64)) (l1 + (0 : Int64)) h0 n0 zz620 ) hZ (hw _ (List.mem_of_getElem? (i := 49) rfl)) (hw _ (List.mem_of_getElem? (i := 48) rfl)) (by decide) (by decide)) rfl (by rw [hml]; rfl) (lenOf pd_1 rfl) rfl (by show 2 * 0 + _ ≤ _; exact Nat.le_of_eq rfl) (hb hby d3_483) rfl e619 (by decide) (by decide) ?_
    intro v620 T620 Lc620 hQ620 X620
    obtain ⟨rfl, Nq620, e620⟩ := hQ620
    have N620 := Fr.app N619 Nq620
    refine Gl.go (fun _ hr => zXS_ifYes X620.here hx rfl (pc0 := 486) (pc' := 493) rfl (hb hby d3_486) rfl (XT.i0_ge_t (own_cuadd0 _)) (by decide) (by decide) (zXT_lconst X620.here hx rfl (hb hby d3_493) (zXT_lstore X620.here hx rfl (hb hby d3_494) rfl (l' := #[.val (.ref x), sJ cn, sS, sJ 1, sS, sJ 0, sS, sJ (pt + (127 : Int64)), sS, sJ (fMag cn), sS, sJ 0, sS, sJ 0, sS, sJ (fMag cn), sS, sJ 0, sS, sJ 127, sS, sI 1, sI 63, sJ 0, sS, sJ 0, sS, sJ (ushrL (fMag cn) (1 : Int32)), sS, sJ 0, sS, sJ 0, sS, sJ 0, sS, sJ 0, sS, sJ (ushrL (fMag cn) (1 : Int32)), sS, sJ (l0 + (0 : Int64)), sS, sJ 0, sS, sJ (l1 + (0 : Int64)), sS, sJ ((l1 + (0 : Int64)) + (0 : Int64)), sS, sJ 0, sS, sU, sU, sU, sU, sU, sU, sU, sU]) rfl (zXS_aloadN X620.here hx rfl (hb hby d3_496) rfl rfl hr)))) ?_
    refine gGetF (host := "") Gl.cl X620 hx hZ hown (Or.inl (hw _ (List.mem_of_getElem? (i := 31) rfl))) Via.refl e620 q5 rfl rfl (hb hby d3_497) ?_
    intro T621 X621 e621
    refine Gl.go (fun _ hr => zXT_lload X621.here hx rfl (hb hby d3_500) rfl (zXT_ladd X621.here hx rfl (hb hby d3_502) rfl (zXT_lstore X621.here hx rfl (hb hby d3_503) rfl (l' := #[.val (.ref x), sJ cn, sS, sJ 1, sS, sJ 0, sS, sJ (pt + (127 : Int64)), sS, sJ (fMag cn), sS, sJ 0, sS, sJ 0, sS, sJ (fMag cn), sS, sJ 0, sS, sJ 127, sS, sI 1, sI 63, sJ 0, sS, sJ 0, sS, sJ (ushrL (fMag cn) (1 : Int32)), sS, sJ 0, sS, sJ 0, sS, sJ 0, sS, sJ 0, sS, sJ (ushrL (fMag cn) (1 : Int32)), sS, sJ (l0 + (0 : Int64)), sS, sJ 0, sS, sJ (l1 + (0 : Int64)), sS, sJ ((l1 + (0 : Int64)) + (0 : Int64)), sS, sJ 0, sS, sJ (l2 + (0 : Int64)), sS, sU, sU, sU, sU, sU, sU]) rfl (zXT_lload X621.here hx rfl (hb hby d3_505) rfl (zXT_lload X621.here hx rfl (hb hby d3_507) rfl (zXT_ladd X621.here hx rfl (hb hby d3_509) rfl (zXT_lstore X621.here hx rfl (hb hby d3_510) rfl (l' := #[.val (.ref x), sJ cn, sS, sJ 1, sS, sJ 0, sS, sJ (pt + (127 : Int64)), sS, sJ (fMag cn), sS, sJ 0, sS, sJ 0, sS, sJ (fMag cn), sS, sJ 0, sS, sJ 127, sS, sI 1, sI 63, sJ 0, sS, sJ 0, sS, sJ (ushrL (fMag cn) (1 : Int32)), sS, sJ 0, sS, sJ 0, sS, sJ 0, sS, sJ 0, sS, sJ (ushrL (fMag cn) (1 : Int32)), sS, sJ (l0 + (0 : Int64)), sS, sJ 0, sS, sJ (l1 + (0 : Int64)), sS, sJ ((l1 + (0 : Int64)) + (0 : Int64)), sS, sJ 0, sS, sJ (l2 + (0 : Int64)), sS, sJ ((l2 + (0 : Int64)) + (0 : Int64)), sS, sU, sU, sU, sU]) rfl (zXT_lload X621.here hx rfl (hb hby d3_512) rfl (zXS_aloadN X621.here hx rfl (hb hby d3_514) rfl rfl hr))))))))) ?_
    refine gGetF (host := "") Gl.cl X621 hx hZ hown (Or.inl (hw _ (List.mem_of_getElem? (i := 31) rfl))) Via.refl e621 q5 rfl rfl (hb hby d3_515) ?_
    intro T622 X622 e622
    have zz623 : n0 ≤ h0.size := by omega
    refine gStaticN Gl.cl (y := (⟨"java/lang/Long", "compareUnsigned", "(JJ)I"⟩ : MethodName)) (argsL := [(.long (l2 + (0 : Int64))), (.long l2)]) (rest := []) (mc := 0) (ms := 0) X622 hx hZ hown (mvT hZ (hw _ (List.mem_of_getElem? (i := 46) rfl))) (mvT hZ (hw _ (List.mem_of_getElem? (i := 47) rfl))) (mvT hZ (hw _ (List.mem_of_getElem? (i := 48) rfl))) (mvT hZ (hw _ (List.mem_of_getElem? (i := 49) rfl))) (by decide) (backOf (W := 0) (cum l Z a0 hw [] (l2 + (0 : Int64)) l2 h0 n0 zz623 ) hZ (hw _ (List.mem_of_getElem? (i := 49) rfl)) (hw _ (List.mem_of_getElem? (i := 48) rfl)) (by decide) (by decide)) rfl (by rw [hml]; rfl) (lenOf pd_1 rfl) rfl (by show 2 * 0 + _ ≤ _; exact Nat.le_of_eq rfl) (hb hby d3_518) rfl e622 (by decide) (by decide) ?_
    intro v623 T623 Lc623 hQ623 X623
    obtain ⟨rfl, Nq623, e623⟩ := hQ623
    have N623 := Fr.app N620 Nq623
    refine Gl.go (fun _ hr => zXS_ifNo X623.here hx rfl (hb hby d3_521) rfl (XT.i0_lt_f (own_cuadd0 _)) (zXT_lload X623.here hx rfl (hb hby d3_524) rfl (zXT_lload X623.here hx rfl (hb hby d3_526) rfl hr))) ?_
    have zz624 : n0 ≤ h0.size := by omega
    refine gStaticN Gl.cl (y := (⟨"java/lang/Long", "compareUnsigned", "(JJ)I"⟩ : MethodName)) (argsL := [(.long ((l2 + (0 : Int64)) + (0 : Int64))), (.long (l2 + (0 : Int64)))]) (rest := []) (mc := 0) (ms := 0) X623 hx hZ hown (mvT hZ (hw _ (List.mem_of_getElem? (i := 46) rfl))) (mvT hZ (hw _ (List.mem_of_getElem? (i := 47) rfl))) (mvT hZ (hw _ (List.mem_of_getElem? (i := 48) rfl))) (mvT hZ (hw _ (List.mem_of_getElem? (i := 49) rfl))) (by decide) (backOf (W := 0) (cum l Z a0 hw [] ((l2 + (0 : Int64)) + (0 : Int64)) (l2 + (0 : Int64)) h0 n0 zz624 ) hZ (hw _ (List.mem_of_getElem? (i := 49) rfl)) (hw _ (List.mem_of_getElem? (i := 48) rfl)) (by decide) (by decide)) rfl (by rw [hml]; rfl) (lenOf pd_1 rfl) rfl (by show 2 * 0 + _ ≤ _; exact Nat.le_of_eq rfl) (hb hby d3_528) rfl e623 (by decide) (by decide) ?_
    intro v624 T624 Lc624 hQ624 X624
    obtain ⟨rfl, Nq624, e624⟩ := hQ624
    have N624 := Fr.app N623 Nq624
    refine Gl.go (fun _ hr => zXS_ifYes X624.here hx rfl (pc0 := 531) (pc' := 538) rfl (hb hby d3_531) rfl (XT.i0_ge_t (own_cuadd0 _)) (by decide) (by decide) (zXT_lconst X624.here hx rfl (hb hby d3_538) (zXT_lstore X624.here hx rfl (hb hby d3_539) rfl (l' := #[.val (.ref x), sJ cn, sS, sJ 1, sS, sJ 0, sS, sJ (pt + (127 : Int64)), sS, sJ (fMag cn), sS, sJ 0, sS, sJ 0, sS, sJ (fMag cn), sS, sJ 0, sS, sJ 127, sS, sI 1, sI 63, sJ 0, sS, sJ 0, sS, sJ (ushrL (fMag cn) (1 : Int32)), sS, sJ 0, sS, sJ 0, sS, sJ 0, sS, sJ 0, sS, sJ (ushrL (fMag cn) (1 : Int32)), sS, sJ (l0 + (0 : Int64)), sS, sJ 0, sS, sJ (l1 + (0 : Int64)), sS, sJ ((l1 + (0 : Int64)) + (0 : Int64)), sS, sJ 0, sS, sJ (l2 + (0 : Int64)), sS, sJ ((l2 + (0 : Int64)) + (0 : Int64)), sS, sJ 0, sS, sU, sU]) rfl (zXS_aloadN X624.here hx rfl (hb hby d3_541) rfl rfl hr)))) ?_
    refine gGetF (host := "") Gl.cl X624 hx hZ hown (Or.inl (hw _ (List.mem_of_getElem? (i := 33) rfl))) Via.refl e624 q6 rfl rfl (hb hby d3_542) ?_
    intro T625 X625 e625
    refine Gl.go (fun _ hr => zXT_lload X625.here hx rfl (hb hby d3_545) rfl (zXT_ladd X625.here hx rfl (hb hby d3_547) rfl (zXT_lload X625.here hx rfl (hb hby d3_548) rfl (zXT_ladd X625.here hx rfl (hb hby d3_550) rfl (zXT_lstore X625.here hx rfl (hb hby d3_551) rfl (l' := #[.val (.ref x), sJ cn, sS, sJ 1, sS, sJ 0, sS, sJ (pt + (127 : Int64)), sS, sJ (fMag cn), sS, sJ 0, sS, sJ 0, sS, sJ (fMag cn), sS, sJ 0, sS, sJ 127, sS, sI 1, sI 63, sJ 0, sS, sJ 0, sS, sJ (ushrL (fMag cn) (1 : Int32)), sS, sJ 0, sS, sJ 0, sS, sJ 0, sS, sJ 0, sS, sJ (ushrL (fMag cn) (1 : Int32)), sS, sJ (l0 + (0 : Int64)), sS, sJ 0, sS, sJ (l1 + (0 : Int64)), sS, sJ ((l1 + (0 : Int64)) + (0 : Int64)), sS, sJ 0, sS, sJ (l2 + (0 : Int64)), sS, sJ ((l2 + (0 : Int64)) + (0 : Int64)), sS, sJ 0, sS, sJ ((l3 + (ushrL (fMag cn) (1 : Int32))) + (0 : Int64)), sS]) rfl (zXS_aloadN X625.here hx rfl (hb hby d3_553) rfl rfl hr)))))) ?_
    refine gGetF (host := "") Gl.cl X625 hx hZ hown (Or.inl (hw _ (List.mem_of_getElem? (i := 33) rfl))) Via.refl e625 q6 rfl rfl (hb hby d3_554) ?_
    intro T626 X626 e626
    refine Gl.go (fun _ hr => zXT_lload X626.here hx rfl (hb hby d3_557) rfl (zXT_lxor X626.here hx rfl (hb hby d3_559) rfl (zXT_lload X626.here hx rfl (hb hby d3_560) rfl (zXT_lload X626.here hx rfl (hb hby d3_562) rfl (zXT_lxor X626.here hx rfl (hb hby d3_564) rfl (zXT_land X626.here hx rfl (hb hby d3_565) rfl (zXT_lconst X626.here hx rfl (hb hby d3_566) (zXT_lcmp X626.here hx rfl (hb hby d3_567) rfl hr)))))))) ?_
    refine Gl.go (fun _ hr => zXS_ifYes X626.here hx rfl (pc0 := 568) (pc' := 581) rfl (hb hby d3_568) rfl (XT.ll_ge_t (own_ov3 hl3 hb1)) (by decide) (by decide) (zXS_aloadN X626.here hx rfl (hb hby d3_581) rfl rfl (zXT_lload X626.here hx rfl (hb hby d3_582) rfl hr))) ?_
    refine gPutF (host := "") Gl.cl X626 hx hZ hown (Or.inl (hw _ (List.mem_of_getElem? (i := 27) rfl))) Via.refl e626 q3 q0 (Or.inl (hw _ (List.mem_of_getElem? (i := 28) rfl))) (hw _ (List.mem_of_getElem? (i := 5) rfl)) (ty := .long) (by decide) rfl rfl rfl rfl (hb hby d3_584) ?_
    intro T627 h627 X627 e627 W627
    have z628 : h0.size ≤ h627.size := (Keep.of_wr W627).1
    have Fw627 := q3.same W627
    have N627 := Fr.snoc X627 N624 (own_ale (by omega))
    refine Gl.go (fun _ hr => zXS_aloadN X627.here hx rfl (hb hby d3_587) rfl rfl (zXT_lload X627.here hx rfl (hb hby d3_588) rfl hr)) ?_
    have Fc629 := (q4.other W627 (Or.inr (slot_ne (Or.inl (hw _ (List.mem_of_getElem? (i := 30) rfl))) (Or.inl (hw _ (List.mem_of_getElem? (i := 28) rfl))) (by decide) (t := .long) (t' := .long) (by decide) (by decide))))
    have Ec630 := (q0.wr W627)
    refine gPutF (host := "") Gl.cl X627 hx hZ hown (Or.inl (hw _ (List.mem_of_getElem? (i := 29) rfl))) Via.refl e627 Fc629 Ec630 (Or.inl (hw _ (List.mem_of_getElem? (i := 30) rfl))) (hw _ (List.mem_of_getElem? (i := 5) rfl)) (ty := .long) (by decide) rfl rfl rfl rfl (hb hby d3_590) ?_
    intro T631 h631 X631 e631 W631
    have z632 : h627.size ≤ h631.size := (Keep.of_wr W631).1
    have Fw631 := Fc629.same W631
    have N631 := Fr.snoc X631 N627 (own_ale (by omega))
    refine Gl.go (fun _ hr => zXS_aloadN X631.here hx rfl (hb hby d3_593) rfl rfl (zXT_lload X631.here hx rfl (hb hby d3_594) rfl hr)) ?_
    have Fc633 := ((q5.other W627 (Or.inr (slot_ne (Or.inl (hw _ (List.mem_of_getElem? (i := 32) rfl))) (Or.inl (hw _ (List.mem_of_getElem? (i := 28) rfl))) (by decide) (t := .long) (t' := .long) (by decide) (by decide)))).other W631 (Or.inr (slot_ne (Or.inl (hw _ (List.mem_of_getElem? (i := 32) rfl))) (Or.inl (hw _ (List.mem_of_getElem? (i := 30) rfl))) (by decide) (t := .long) (t' := .long) (by decide) (by decide))))
    have Ec634 := (Ec630.wr W631)
    refine gPutF (host := "") Gl.cl X631 hx hZ hown (Or.inl (hw _ (List.mem_of_getElem? (i := 31) rfl))) Via.refl e631 Fc633 Ec634 (Or.inl (hw _ (List.mem_of_getElem? (i := 32) rfl))) (hw _ (List.mem_of_getElem? (i := 5) rfl)) (ty := .long) (by decide) rfl rfl rfl rfl (hb hby d3_596) ?_
    intro T635 h635 X635 e635 W635
    have z636 : h631.size ≤ h635.size := (Keep.of_wr W635).1
    have Fw635 := Fc633.same W635
    have N635 := Fr.snoc X635 N631 (own_ale (by omega))
    refine Gl.go (fun _ hr => zXS_aloadN X635.here hx rfl (hb hby d3_599) rfl rfl (zXT_lload X635.here hx rfl (hb hby d3_600) rfl hr)) ?_
    have Fc637 := (((q6.other W627 (Or.inr (slot_ne (Or.inl (hw _ (List.mem_of_getElem? (i := 34) rfl))) (Or.inl (hw _ (List.mem_of_getElem? (i := 28) rfl))) (by decide) (t := .long) (t' := .long) (by decide) (by decide)))).other W631 (Or.inr (slot_ne (Or.inl (hw _ (List.mem_of_getElem? (i := 34) rfl))) (Or.inl (hw _ (List.mem_of_getElem? (i := 30) rfl))) (by decide) (t := .long) (t' := .long) (by decide) (by decide)))).other W635 (Or.inr (slot_ne (Or.inl (hw _ (List.mem_of_getElem? (i := 34) rfl))) (Or.inl (hw _ (List.mem_of_getElem? (i := 32) rfl))) (by decide) (t := .long) (t' := .long) (by decide) (by decide))))
    have Ec638 := (Ec634.wr W635)
    refine gPutF (host := "") Gl.cl X635 hx hZ hown (Or.inl (hw _ (List.mem_of_getElem? (i := 33) rfl))) Via.refl e635 Fc637 Ec638 (Or.inl (hw _ (List.mem_of_getElem? (i := 34) rfl))) (hw _ (List.mem_of_getElem? (i := 5) rfl)) (ty := .long) (by decide) rfl rfl rfl rfl (hb hby d3_602) ?_
    intro T639 h639 X639 e639 W639
    have z640 : h635.size ≤ h639.size := (Keep.of_wr W639).1
    have Fw639 := Fc637.same W639
    have N639 := Fr.snoc X639 N635 (own_ale (by omega))
    refine Gl.go (fun _ hr => zXS_aloadN X639.here hx rfl (hb hby d3_605) rfl rfl (zXS_iconst X639.here hx rfl (hb hby d3_606) hr)) ?_
    have Fc641 := ((((q7.other W627 (Or.inr (slot_ne (Or.inl (hw _ (List.mem_of_getElem? (i := 66) rfl))) (Or.inl (hw _ (List.mem_of_getElem? (i := 28) rfl))) (by decide) (t := .boolean) (t' := .long) (by decide) (by decide)))).other W631 (Or.inr (slot_ne (Or.inl (hw _ (List.mem_of_getElem? (i := 66) rfl))) (Or.inl (hw _ (List.mem_of_getElem? (i := 30) rfl))) (by decide) (t := .boolean) (t' := .long) (by decide) (by decide)))).other W635 (Or.inr (slot_ne (Or.inl (hw _ (List.mem_of_getElem? (i := 66) rfl))) (Or.inl (hw _ (List.mem_of_getElem? (i := 32) rfl))) (by decide) (t := .boolean) (t' := .long) (by decide) (by decide)))).other W639 (Or.inr (slot_ne (Or.inl (hw _ (List.mem_of_getElem? (i := 66) rfl))) (Or.inl (hw _ (List.mem_of_getElem? (i := 34) rfl))) (by decide) (t := .boolean) (t' := .long) (by decide) (by decide))))
    have Ec642 := (Ec638.wr W639)
    refine gPutF (host := "") Gl.cl X639 hx hZ hown (Or.inl (hw _ (List.mem_of_getElem? (i := 65) rfl))) Via.refl e639 Fc641 Ec642 (Or.inl (hw _ (List.mem_of_getElem? (i := 66) rfl))) (hw _ (List.mem_of_getElem? (i := 5) rfl)) (ty := .boolean) (by decide) rfl rfl rfl rfl (hb hby d3_607) ?_
    intro T643 h643 X643 e643 W643
    have z644 : h639.size ≤ h643.size := (Keep.of_wr W643).1
    have Fw643 := Fc641.same W643
    have N643 := Fr.snoc X643 N639 (own_ale (by omega))
    have Ec645 := (Ec642.wr W643)
    have Fc646 := (((((q2.other W627 (Or.inr (slot_ne (Or.inl (hw _ (List.mem_of_getElem? (i := 15) rfl))) (Or.inl (hw _ (List.mem_of_getElem? (i := 28) rfl))) (by decide) (t := .long) (t' := .long) (by decide) (by decide)))).other W631 (Or.inr (slot_ne (Or.inl (hw _ (List.mem_of_getElem? (i := 15) rfl))) (Or.inl (hw _ (List.mem_of_getElem? (i := 30) rfl))) (by decide) (t := .long) (t' := .long) (by decide) (by decide)))).other W635 (Or.inr (slot_ne (Or.inl (hw _ (List.mem_of_getElem? (i := 15) rfl))) (Or.inl (hw _ (List.mem_of_getElem? (i := 32) rfl))) (by decide) (t := .long) (t' := .long) (by decide) (by decide)))).other W639 (Or.inr (slot_ne (Or.inl (hw _ (List.mem_of_getElem? (i := 15) rfl))) (Or.inl (hw _ (List.mem_of_getElem? (i := 34) rfl))) (by decide) (t := .long) (t' := .long) (by decide) (by decide)))).other W643 (Or.inr (slot_ne (Or.inl (hw _ (List.mem_of_getElem? (i := 15) rfl))) (Or.inl (hw _ (List.mem_of_getElem? (i := 66) rfl))) (by decide) (t := .long) (t' := .boolean) (by decide) (by decide))))
    have Fc647 := ((((Fw627.other W631 (Or.inr (slot_ne (Or.inl (hw _ (List.mem_of_getElem? (i := 28) rfl))) (Or.inl (hw _ (List.mem_of_getElem? (i := 30) rfl))) (by decide) (t := .long) (t' := .long) (by decide) (by decide)))).other W635 (Or.inr (slot_ne (Or.inl (hw _ (List.mem_of_getElem? (i := 28) rfl))) (Or.inl (hw _ (List.mem_of_getElem? (i := 32) rfl))) (by decide) (t := .long) (t' := .long) (by decide) (by decide)))).other W639 (Or.inr (slot_ne (Or.inl (hw _ (List.mem_of_getElem? (i := 28) rfl))) (Or.inl (hw _ (List.mem_of_getElem? (i := 34) rfl))) (by decide) (t := .long) (t' := .long) (by decide) (by decide)))).other W643 (Or.inr (slot_ne (Or.inl (hw _ (List.mem_of_getElem? (i := 28) rfl))) (Or.inl (hw _ (List.mem_of_getElem? (i := 66) rfl))) (by decide) (t := .long) (t' := .boolean) (by decide) (by decide))))
    have Fc648 := (((Fw631.other W635 (Or.inr (slot_ne (Or.inl (hw _ (List.mem_of_getElem? (i := 30) rfl))) (Or.inl (hw _ (List.mem_of_getElem? (i := 32) rfl))) (by decide) (t := .long) (t' := .long) (by decide) (by decide)))).other W639 (Or.inr (slot_ne (Or.inl (hw _ (List.mem_of_getElem? (i := 30) rfl))) (Or.inl (hw _ (List.mem_of_getElem? (i := 34) rfl))) (by decide) (t := .long) (t' := .long) (by decide) (by decide)))).other W643 (Or.inr (slot_ne (Or.inl (hw _ (List.mem_of_getElem? (i := 30) rfl))) (Or.inl (hw _ (List.mem_of_getElem? (i := 66) rfl))) (by decide) (t := .long) (t' := .boolean) (by decide) (by decide))))
    have Fc649 := ((Fw635.other W639 (Or.inr (slot_ne (Or.inl (hw _ (List.mem_of_getElem? (i := 32) rfl))) (Or.inl (hw _ (List.mem_of_getElem? (i := 34) rfl))) (by decide) (t := .long) (t' := .long) (by decide) (by decide)))).other W643 (Or.inr (slot_ne (Or.inl (hw _ (List.mem_of_getElem? (i := 32) rfl))) (Or.inl (hw _ (List.mem_of_getElem? (i := 66) rfl))) (by decide) (t := .long) (t' := .boolean) (by decide) (by decide))))
    have Fc650 := (Fw639.other W643 (Or.inr (slot_ne (Or.inl (hw _ (List.mem_of_getElem? (i := 34) rfl))) (Or.inl (hw _ (List.mem_of_getElem? (i := 66) rfl))) (by decide) (t := .long) (t' := .boolean) (by decide) (by decide))))
    obtain ⟨fs, hr, hrun, hended, hW, hsame⟩ := X643.leave (v := none) (fun _ => rfl)
    refine ⟨_, _, X643.returnOut hx Bd.returns (hb hby d3_610) hr, hrun, hended, _, _, rfl, ?_, ⟨⟨_, rfl⟩, hW, hsame.mono (by decide) (by decide)⟩⟩
    show QaddB3 Z x cn pt l0 l1 l2 l3 h0 n0 _ T643.heap _
    rw [e643]
    exact ⟨(l0 + (0 : Int64)), ((l1 + (0 : Int64)) + (0 : Int64)), ((l2 + (0 : Int64)) + (0 : Int64)), ((l3 + (ushrL (fMag cn) (1 : Int32))) + (0 : Int64)), rfl, N643, ((((((Keep.refl h0 [x]).wr W627 (Or.inl (by simp))).wr W631 (Or.inl (by simp))).wr W635 (Or.inl (by simp))).wr W639 (Or.inl (by simp))).wr W643 (Or.inl (by simp))), Ec645, Fc646, Fc647, Fc648, Fc649, Fc650, Fw643, (own_add_ne0 hpos)⟩
def QaddZ (Z : State) (x : Addr) (cn : Int64) (hi : Int64) (lo : Int64) (ex : Int64) (pt : Int64) (l0 : Int64) (l1 : Int64) (l2 : Int64) (l3 : Int64) (h0 : Heap) (n0 : Nat) (v : Option Value) (h : Heap) (L : List Loc) : Prop := v = none ∧ Fr n0 L ∧ h = h0
theorem ef_addZ (m : MethodId) (x0 : Addr) (x1 : Int64) (x2 : Int64) (x3 : Int64) (x4 : Int64) : entryFrame m #[(.ref x0), (.long x1), (.long x2), (.long x3), (.long x4)] 57 = mkF m 0 #[.val (.ref x0), sJ x1, sS, sJ x2, sS, sJ x3, sS, sJ x4, sS, sU, sU, sU, sU, sU, sU, sU, sU, sU, sU, sU, sU, sU, sU, sU, sU, sU, sU, sU, sU, sU, sU, sU, sU, sU, sU, sU, sU, sU, sU, sU, sU, sU, sU, sU, sU, sU, sU, sU, sU, sU, sU, sU, sU, sU, sU, sU, sU] [] := by first | (simp [entryFrame, mkF, argsToLocals, Value.category]; done) | rfl
set_option maxRecDepth 65536 in
set_option maxHeartbeats 40000000 in
theorem addZ (l : Launch) (Z : State) (a0 : Array Value) (hw : ∀ d ∈ tables_1, d.before a0 Z = true) (ws : List Jvm.Cond) (x : Addr) (cn : Int64) (hi : Int64) (lo : Int64) (ex : Int64) (pt : Int64) (l0 : Int64) (l1 : Int64) (l2 : Int64) (l3 : Int64) (h0 : Heap) (n0 : Nat) (Z0 : n0 ≤ h0.size) (q0 : Exa Z h0 x "com/example/evenkeel/evenkeel/share/FlooredSum") (q1 : @LE.le Nat instLENat n0 x) (q2 : Fld Z h0 x "com/example/evenkeel/evenkeel/share/FlooredSum" "point" "J" (.long pt)) (q3 : Fld Z h0 x "com/example/evenkeel/evenkeel/share/FlooredSum" "limb0" "J" (.long l0)) (q4 : Fld Z h0 x "com/example/evenkeel/evenkeel/share/FlooredSum" "limb1" "J" (.long l1)) (q5 : Fld Z h0 x "com/example/evenkeel/evenkeel/share/FlooredSum" "limb2" "J" (.long l2)) (q6 : Fld Z h0 x "com/example/evenkeel/evenkeel/share/FlooredSum" "limb3" "J" (.long l3)) (q7 : Fld Z h0 x "com/example/evenkeel/evenkeel/share/FlooredSum" "known" "Z" (.int (0 : Int32))) (hpt : ¬ pt = (-9223372036854775808 : Int64)) (hex : ¬ ex < pt) (hz : cn = (0 : Int64)) :
    MetFree l (⟨"com/example/evenkeel/evenkeel/share/FlooredSum", "add", "(JJJJ)V"⟩ : MethodName) (head1 (Jvm.Cond.code (⟨"com/example/evenkeel/evenkeel/share/FlooredSum", "add", "(JJJJ)V"⟩ : MethodName) prog_96_method_10_code 57 none :: ws) ({ frames := 0, cells := 0, slots := 0, locals := 0 } : Room)) (fun a_ U_ => a_ = #[(.ref x), (.long cn), (.long hi), (.long lo), (.long ex)] ∧ Z.Warmed39 U_.vm ∧ U_.heap = h0) (fun _ _ _ _ _ => True) (fun _ U_ o_ V_ => ∃ v_ L_, o_ = .returned v_ ∧ QaddZ Z x cn hi lo ex pt l0 l1 l2 l3 h0 n0 v_ V_.heap L_ ∧ FrameEnd U_ o_ V_ L_ ({ frames := 0, cells := 0, slots := 0, locals := 0 } : Room).cells ({ frames := 0, cells := 0, slots := 0, locals := 0 } : Room).slots) := by
  refine MetFree.of_bodySF (plainFor_of_name pn_0) hisR ?_
  intro p e s m args below meth c s₁ Bd hml0 hP hK
  obtain ⟨rfl, hZ, hh⟩ := hP
  have hx := Bd.exec
  have hby := Bd.bytes
  have hml : c.maxLocals = 57 := hml0
  have hown : s.vm.findClass "com/example/evenkeel/evenkeel/share/FlooredSum" = some m.cls := findClass_of_methodNamed Bd.named
  have hnm := (name_of_methodNamed Bd.named Bd.method).1
  have X0 : Stand p l e ({ frames := 0, cells := 0, slots := 0, locals := 0 } : Room) s m #[(.ref x), (.long cn), (.long hi), (.long lo), (.long ex)] below meth c s₁ [] 0 0 := Stand.of_body Bd
  have e0 : s₁.heap = h0 := by rw [← hh, Bd.state]; rfl
  have N0 := Fr.nil n0
  have lt651 := own_alt q0.lt
  have lt652 := own_alt q2.lt
  have lt653 := own_alt q3.lt
  have lt654 := own_alt q4.lt
  have lt655 := own_alt q5.lt
  have lt656 := own_alt q6.lt
  have lt657 := own_alt q7.lt
  refine Gl.go (A := s₁.setTop (entryFrame m #[(.ref x), (.long cn), (.long hi), (.long lo), (.long ex)] 57)) (P := fun o_ U_ => ∃ v_ L_, o_ = .returned v_ ∧ QaddZ Z x cn hi lo ex pt l0 l1 l2 l3 h0 n0 v_ U_.heap L_ ∧ FrameEnd s o_ U_ L_ ({ frames := 0, cells := 0, slots := 0, locals := 0 } : Room).cells ({ frames := 0, cells := 0, slots := 0, locals := 0 } : Room).slots) (fun t_ k_ => castTop (ef_addZ m x cn hi lo ex) k_) ?_
  show Gl p.tables e below _ (s₁.setTop (mkF m 0 #[.val (.ref x), sJ cn, sS, sJ hi, sS, sJ lo, sS, sJ ex, sS, sU, sU, sU, sU, sU, sU, sU, sU, sU, sU, sU, sU, sU, sU, sU, sU, sU, sU, sU, sU, sU, sU, sU, sU, sU, sU, sU, sU, sU, sU, sU, sU, sU, sU, sU, sU, sU, sU, sU, sU, sU, sU, sU, sU, sU, sU, sU, sU] []))
  refine Gl.go (fun _ hr => zXS_aloadN X0.here hx rfl (hb hby d3_0) rfl rfl hr) ?_
  refine gGetF (host := "") Gl.cl X0 hx hZ hown (Or.inl (hw _ (List.mem_of_getElem? (i := 14) rfl))) Via.refl e0 q2 rfl rfl (hb hby d3_1) ?_
  intro T658 X658 e658
  refine Gl.go (X658.ldc2Long hx hown (mvT hZ (hw _ (List.mem_of_getElem? (i := 13) rfl))) rfl (hb hby d3_4)) ?_
  refine Gl.go (fun _ hr => zXT_lcmp X658.here hx rfl (hb hby d3_7) rfl hr) ?_
  refine Gl.go (fun _ hr => zXS_ifYes X658.here hx rfl (pc0 := 8) (pc' := 17) rfl (hb hby d3_8) rfl (XT.ll_ne_t hpt) (by decide) (by decide) (zXT_lload X658.here hx rfl (hb hby d3_17) rfl (zXS_aloadN X658.here hx rfl (hb hby d3_19) rfl rfl hr))) ?_
  refine gGetF (host := "") Gl.cl X658 hx hZ hown (Or.inl (hw _ (List.mem_of_getElem? (i := 14) rfl))) Via.refl e658 q2 rfl rfl (hb hby d3_20) ?_
  intro T659 X659 e659
  refine Gl.go (fun _ hr => zXT_lcmp X659.here hx rfl (hb hby d3_23) rfl hr) ?_
  refine Gl.go (fun _ hr => zXS_ifYes X659.here hx rfl (pc0 := 24) (pc' := 46) rfl (hb hby d3_24) rfl (XT.ll_ge_t hex) (by decide) (by decide) (zXT_lloadN X659.here hx rfl (hb hby d3_46) rfl (zXT_lconst X659.here hx rfl (hb hby d3_47) (zXT_lcmp X659.here hx rfl (hb hby d3_48) rfl hr)))) ?_
  refine Gl.go (fun _ hr => zXS_ifYes X659.here hx rfl (pc0 := 49) (pc' := 65) rfl (hb hby d3_49) rfl (XT.ll_eq_t hz) (by decide) (by decide) hr) ?_
  obtain ⟨fs, hr, hrun, hended, hW, hsame⟩ := X659.leave (v := none) (fun _ => rfl)
  refine ⟨_, _, X659.returnOut hx Bd.returns (hb hby d3_65) hr, hrun, hended, _, _, rfl, ?_, ⟨⟨_, rfl⟩, hW, hsame.mono (by decide) (by decide)⟩⟩
  show QaddZ Z x cn hi lo ex pt l0 l1 l2 l3 h0 n0 _ T659.heap _
  rw [e659]
  exact ⟨rfl, N0, rfl⟩
def Qlawrm (Z : State) (i0 : Int64) (i1 : Int64) (i2 : Int64) (i3 : Int64) (i4 : Int64) (i5 : Int32) (h0 : Heap) (n0 : Nat) (v : Option Value) (h : Heap) (L : List Loc) : Prop := v = some (.int (1 : Int32)) ∧ Fr n0 L ∧ Keep h0 h []
theorem pn_3 : plainName "com/example/evenkeel/evenkeel/share/FlooredSumSameAsPinLaw" = true := by first | (simp [plainName, overriddenIn]; done) | decide +kernel
theorem ef_lawrm (m : MethodId) (x0 : Int64) (x1 : Int64) (x2 : Int64) (x3 : Int64) (x4 : Int64) (x5 : Int32) : entryFrame m #[(.long x0), (.long x1), (.long x2), (.long x3), (.long x4), (.int x5)] maxLocals = mkF m 0 #[sJ x0, sS, sJ x1, sS, sJ x2, sS, sJ x3, sS, sJ x4, sS, sI x5, sU, sU, sU, sU, sU, sU, sU, sU, sU, sU, sU, sU] [] := by first | (simp [entryFrame, mkF, argsToLocals, Value.category, maxLocals]; done) | rfl
theorem pd_6 : parseMethodDescriptor "()V" = some ⟨[], none⟩ := by decide +kernel
theorem pd_7 : parseMethodDescriptor "(JJJJ)V" = some ⟨[.long, .long, .long, .long], none⟩ := by decide +kernel
theorem pd_8 : parseMethodDescriptor "(Lcom/example/evenkeel/evenkeel/share/FlooredSum;)Z" = some ⟨[(.object "com/example/evenkeel/evenkeel/share/FlooredSum")], some .boolean⟩ := by decide +kernel
set_option maxRecDepth 65536 in
set_option maxHeartbeats 40000000 in
theorem lawrm (l : Launch) (Z : State) (a0 : Array Value) (hw : ∀ d ∈ tables_1, d.before a0 Z = true) (ws : List Jvm.Cond) (i0 : Int64) (i1 : Int64) (i2 : Int64) (i3 : Int64) (i4 : Int64) (i5 : Int32) (h0 : Heap) (n0 : Nat) (Z0 : n0 ≤ h0.size) :
    MetFree l x (head1 (Jvm.Cond.code x code maxLocals ret :: ws) room_1) (fun a_ U_ => a_ = #[(.long i0), (.long i1), (.long i2), (.long i3), (.long i4), (.int i5)] ∧ Z.Warmed39 U_.vm ∧ U_.heap = h0) (fun _ _ _ _ _ => True) (fun _ U_ o_ V_ => ∃ v_ L_, o_ = .returned v_ ∧ Qlawrm Z i0 i1 i2 i3 i4 i5 h0 n0 v_ V_.heap L_ ∧ FrameEnd U_ o_ V_ L_ 16 128) := by
  refine MetFree.of_bodySF (plainFor_of_name pn_3) hisR ?_
  intro p e s m args below meth c s₁ Bd hml0 hP hK
  obtain ⟨rfl, hZ, hh⟩ := hP
  have hx := Bd.exec
  have hby := Bd.bytes
  have hml : c.maxLocals = 23 := hml0
  have hown : s.vm.findClass "com/example/evenkeel/evenkeel/share/FlooredSumSameAsPinLaw" = some m.cls := findClass_of_methodNamed Bd.named
  have hnm := (name_of_methodNamed Bd.named Bd.method).1
  have X0 : Stand p l e room_1 s m #[(.long i0), (.long i1), (.long i2), (.long i3), (.long i4), (.int i5)] below meth c s₁ [] 0 0 := Stand.of_body Bd
  have e0 : s₁.heap = h0 := by rw [← hh, Bd.state]; rfl
  have N0 := Fr.nil n0
  refine Gl.go (A := s₁.setTop (entryFrame m #[(.long i0), (.long i1), (.long i2), (.long i3), (.long i4), (.int i5)] maxLocals)) (P := fun o_ U_ => ∃ v_ L_, o_ = .returned v_ ∧ Qlawrm Z i0 i1 i2 i3 i4 i5 h0 n0 v_ U_.heap L_ ∧ FrameEnd s o_ U_ L_ 16 128) (fun t_ k_ => castTop (ef_lawrm m i0 i1 i2 i3 i4 i5) k_) ?_
  show Gl p.tables e below _ (s₁.setTop (mkF m 0 #[sJ i0, sS, sJ i1, sS, sJ i2, sS, sJ i3, sS, sJ i4, sS, sI i5, sU, sU, sU, sU, sU, sU, sU, sU, sU, sU, sU, sU] []))
  refine Gl.go (fun _ hr => zXT_lloadN X0.here hx rfl (hb hby at_0) rfl (zXS_iconst X0.here hx rfl (hb hby at_1) (zXT_lshr X0.here hx rfl (hb hby at_2) rfl (zXT_lstore X0.here hx rfl (hb hby at_3) rfl (l' := #[sJ i0, sS, sJ i1, sS, sJ i2, sS, sJ i3, sS, sJ i4, sS, sI i5, sJ (i0 >>> ((2 : Int32).toInt64 &&& 63)), sS, sU, sU, sU, sU, sU, sU, sU, sU, sU, sU]) rfl (zXT_lloadN X0.here hx rfl (hb hby at_5) rfl hr))))) ?_
  refine Gl.go (X0.ldc2Long hx hown (mvT hZ (hw _ (List.mem_of_getElem? (i := 0) rfl))) rfl (hb hby at_6)) ?_
  refine Gl.go (fun _ hr => zXT_land X0.here hx rfl (hb hby at_9) rfl (zXT_lstore X0.here hx rfl (hb hby at_10) rfl (l' := #[sJ i0, sS, sJ i1, sS, sJ i2, sS, sJ i3, sS, sJ i4, sS, sI i5, sJ (i0 >>> ((2 : Int32).toInt64 &&& 63)), sS, sJ (i1 &&& (9223372036854775807 : Int64)), sS, sU, sU, sU, sU, sU, sU, sU, sU]) rfl (zXT_lload X0.here hx rfl (hb hby at_12) rfl (zXT_lstore X0.here hx rfl (hb hby at_14) rfl (l' := #[sJ i0, sS, sJ i1, sS, sJ i2, sS, sJ i3, sS, sJ i4, sS, sI i5, sJ (i0 >>> ((2 : Int32).toInt64 &&& 63)), sS, sJ (i1 &&& (9223372036854775807 : Int64)), sS, sJ i3, sS, sU, sU, sU, sU, sU, sU]) rfl hr)))) ?_
  obtain ⟨T660, ⟨lc660, N660, X660, e660⟩, st660⟩ : Sg (fun U => ∃ lc, Fr n0 lc ∧ Stand p l e room_1 s m #[(.long i0), (.long i1), (.long i2), (.long i3), (.long i4), (.int i5)] below meth c U lc 0 0 ∧ U.heap = h0) (mkF m 44 #[sJ i0, sS, sJ i1, sS, sJ i2, sS, sJ i3, sS, sJ i4, sS, sI i5, sJ (i0 >>> ((2 : Int32).toInt64 &&& 63)), sS, sJ (i1 &&& (9223372036854775807 : Int64)), sS, sJ (fPt i3), sS, sU, sU, sU, sU, sU, sU] []) p.tables e below (s₁.setTop (mkF m 16 #[sJ i0, sS, sJ i1, sS, sJ i2, sS, sJ i3, sS, sJ i4, sS, sI i5, sJ (i0 >>> ((2 : Int32).toInt64 &&& 63)), sS, sJ (i1 &&& (9223372036854775807 : Int64)), sS, sJ i3, sS, sU, sU, sU, sU, sU, sU] [])) := by
    refine Sg.go (fun _ hr => zXT_lload X0.here hx rfl (hb hby at_16) rfl hr) ?_
    refine Sg.go (X0.ldc2Long hx hown (mvT hZ (hw _ (List.mem_of_getElem? (i := 1) rfl))) rfl (hb hby at_18)) ?_
    refine Sg.go (fun _ hr => zXT_lcmp X0.here hx rfl (hb hby at_21) rfl hr) ?_
    by_cases hc661 : i3 = (-9223372036854775808 : Int64)
    · refine Sg.go (fun _ hr => zXS_ifNo X0.here hx rfl (hb hby at_22) rfl (XT.ll_ne_f hc661) hr) ?_
      refine Sg.go (X0.ldc2Long hx hown (mvT hZ (hw _ (List.mem_of_getElem? (i := 71) rfl))) rfl (hb hby at_25)) ?_
      refine Sg.go (fun _ hr => zXT_lstore X0.here hx rfl (hb hby at_28) rfl (l' := #[sJ i0, sS, sJ i1, sS, sJ i2, sS, sJ i3, sS, sJ i4, sS, sI i5, sJ (i0 >>> ((2 : Int32).toInt64 &&& 63)), sS, sJ (i1 &&& (9223372036854775807 : Int64)), sS, sJ (-9223372036854775807), sS, sU, sU, sU, sU, sU, sU]) rfl (zXT_lload X0.here hx rfl (hb hby at_30) rfl hr)) ?_
      refine Sg.go (X0.ldc2Long hx hown (mvT hZ (hw _ (List.mem_of_getElem? (i := 2) rfl))) rfl (hb hby at_32)) ?_
      refine Sg.go (fun _ hr => zXT_lcmp X0.here hx rfl (hb hby at_35) rfl (zXS_ifYes X0.here hx rfl (pc0 := 36) (pc' := 44) rfl (hb hby at_36) rfl (XT.ll_le_t (by decide)) (by decide) (by decide) hr)) ?_
      show Sg _ _ p.tables e below (s₁.setTop (mkF m 44 #[sJ i0, sS, sJ i1, sS, sJ i2, sS, sJ i3, sS, sJ i4, sS, sI i5, sJ (i0 >>> ((2 : Int32).toInt64 &&& 63)), sS, sJ (i1 &&& (9223372036854775807 : Int64)), sS, sJ (-9223372036854775807), sS, sU, sU, sU, sU, sU, sU] []))
      exact ⟨s₁, ⟨_, N0, X0, e0⟩, fun _ hr => by rw [fPt, if_pos hc661] at hr; exact hr⟩
    · refine Sg.go (fun _ hr => zXS_ifYes X0.here hx rfl (pc0 := 22) (pc' := 30) rfl (hb hby at_22) rfl (XT.ll_ne_t hc661) (by decide) (by decide) (zXT_lload X0.here hx rfl (hb hby at_30) rfl hr)) ?_
      refine Sg.go (X0.ldc2Long hx hown (mvT hZ (hw _ (List.mem_of_getElem? (i := 2) rfl))) rfl (hb hby at_32)) ?_
      refine Sg.go (fun _ hr => zXT_lcmp X0.here hx rfl (hb hby at_35) rfl hr) ?_
      by_cases hc662 : (9223372036854775680 : Int64) < i3
      · refine Sg.go (fun _ hr => zXS_ifNo X0.here hx rfl (hb hby at_36) rfl (XT.ll_le_f hc662) hr) ?_
        refine Sg.go (X0.ldc2Long hx hown (mvT hZ (hw _ (List.mem_of_getElem? (i := 2) rfl))) rfl (hb hby at_39)) ?_
        refine Sg.go (fun _ hr => zXT_lstore X0.here hx rfl (hb hby at_42) rfl (l' := #[sJ i0, sS, sJ i1, sS, sJ i2, sS, sJ i3, sS, sJ i4, sS, sI i5, sJ (i0 >>> ((2 : Int32).toInt64 &&& 63)), sS, sJ (i1 &&& (9223372036854775807 : Int64)), sS, sJ 9223372036854775680, sS, sU, sU, sU, sU, sU, sU]) rfl hr) ?_
        show Sg _ _ p.tables e below (s₁.setTop (mkF m 44 #[sJ i0, sS, sJ i1, sS, sJ i2, sS, sJ i3, sS, sJ i4, sS, sI i5, sJ (i0 >>> ((2 : Int32).toInt64 &&& 63)), sS, sJ (i1 &&& (9223372036854775807 : Int64)), sS, sJ 9223372036854775680, sS, sU, sU, sU, sU, sU, sU] []))
        exact ⟨s₁, ⟨_, N0, X0, e0⟩, fun _ hr => by rw [fPt, if_neg hc661, if_pos hc662] at hr; exact hr⟩
      · refine Sg.go (fun _ hr => zXS_ifYes X0.here hx rfl (pc0 := 36) (pc' := 44) rfl (hb hby at_36) rfl (XT.ll_le_t hc662) (by decide) (by decide) hr) ?_
        show Sg _ _ p.tables e below (s₁.setTop (mkF m 44 #[sJ i0, sS, sJ i1, sS, sJ i2, sS, sJ i3, sS, sJ i4, sS, sI i5, sJ (i0 >>> ((2 : Int32).toInt64 &&& 63)), sS, sJ (i1 &&& (9223372036854775807 : Int64)), sS, sJ i3, sS, sU, sU, sU, sU, sU, sU] []))
        exact ⟨s₁, ⟨_, N0, X0, e0⟩, fun _ hr => by rw [fPt, if_neg hc661, if_neg hc662] at hr; exact hr⟩
  refine Gl.go st660 ?_
  show Gl p.tables e below _ (T660.setTop (mkF m 44 #[sJ i0, sS, sJ i1, sS, sJ i2, sS, sJ i3, sS, sJ i4, sS, sI i5, sJ (i0 >>> ((2 : Int32).toInt64 &&& 63)), sS, sJ (i1 &&& (9223372036854775807 : Int64)), sS, sJ (fPt i3), sS, sU, sU, sU, sU, sU, sU] []))
  refine Gl.go (fun _ hr => zXS_iload X660.here hx rfl (hb hby at_44) rfl hr) ?_
  refine Gl.go (X660.ldcInt hx hown (mvT hZ (hw _ (List.mem_of_getElem? (i := 3) rfl))) rfl (hb hby at_46)) ?_
  refine Gl.go (fun _ hr => zXS_iand X660.here hx rfl (hb hby at_48) rfl (zXS_bipush X660.here hx rfl (hb hby at_49) (zRW_iremM X660 hx rfl (hb hby at_51) rfl (by decide) hr))) ?_
  show Gl p.tables e below _ (T660.setTop (mkF m 52 #[sJ i0, sS, sJ i1, sS, sJ i2, sS, sJ i3, sS, sJ i4, sS, sI i5, sJ (i0 >>> ((2 : Int32).toInt64 &&& 63)), sS, sJ (i1 &&& (9223372036854775807 : Int64)), sS, sJ (fPt i3), sS, sU, sU, sU, sU, sU, sU] [(.int ((i5 &&& (2147483647 : Int32)) % (6 : Int32)))]))
  obtain ⟨md, hq_md⟩ : ∃ q, q = ((i5 &&& (2147483647 : Int32)) % (6 : Int32)) := ⟨_, rfl⟩
  rw [← hq_md]
  show Gl p.tables e below _ (T660.setTop (mkF m 52 #[sJ i0, sS, sJ i1, sS, sJ i2, sS, sJ i3, sS, sJ i4, sS, sI i5, sJ (i0 >>> ((2 : Int32).toInt64 &&& 63)), sS, sJ (i1 &&& (9223372036854775807 : Int64)), sS, sJ (fPt i3), sS, sU, sU, sU, sU, sU, sU] [(.int md)]))
  refine Gl.go (fun _ hr => zXS_istore X660.here hx rfl (hb hby at_52) rfl (l' := #[sJ i0, sS, sJ i1, sS, sJ i2, sS, sJ i3, sS, sJ i4, sS, sI i5, sJ (i0 >>> ((2 : Int32).toInt64 &&& 63)), sS, sJ (i1 &&& (9223372036854775807 : Int64)), sS, sJ (fPt i3), sS, sI md, sU, sU, sU, sU, sU]) rfl hr) ?_
  refine gNew Gl.cl X660 hx hZ hown (hw _ (List.mem_of_getElem? (i := 4) rfl)) (hw _ (List.mem_of_getElem? (i := 5) rfl)) (hw _ (List.mem_of_getElem? (i := 6) rfl)) e660 rfl (hb hby at_54) (by decide) (by decide) ?_
  intro T663 h663 b663 g663 X663 e663 E663 A663 D663
  have z664 : h0.size ≤ h663.size := E663.1
  have lt663 := own_alt A663.lt
  have F663_point : Fld Z h663 b663 "com/example/evenkeel/evenkeel/share/FlooredSum" "point" "J" (.long (0 : Int64)) := D663 (Or.inl (hw _ (List.mem_of_getElem? (i := 15) rfl))) (ty := .long) (by decide)
  have F663_limb0 : Fld Z h663 b663 "com/example/evenkeel/evenkeel/share/FlooredSum" "limb0" "J" (.long (0 : Int64)) := D663 (Or.inl (hw _ (List.mem_of_getElem? (i := 28) rfl))) (ty := .long) (by decide)
  have F663_limb1 : Fld Z h663 b663 "com/example/evenkeel/evenkeel/share/FlooredSum" "limb1" "J" (.long (0 : Int64)) := D663 (Or.inl (hw _ (List.mem_of_getElem? (i := 30) rfl))) (ty := .long) (by decide)
  have F663_limb2 : Fld Z h663 b663 "com/example/evenkeel/evenkeel/share/FlooredSum" "limb2" "J" (.long (0 : Int64)) := D663 (Or.inl (hw _ (List.mem_of_getElem? (i := 32) rfl))) (ty := .long) (by decide)
  have F663_limb3 : Fld Z h663 b663 "com/example/evenkeel/evenkeel/share/FlooredSum" "limb3" "J" (.long (0 : Int64)) := D663 (Or.inl (hw _ (List.mem_of_getElem? (i := 34) rfl))) (ty := .long) (by decide)
  have F663_known : Fld Z h663 b663 "com/example/evenkeel/evenkeel/share/FlooredSum" "known" "Z" (.int (0 : Int32)) := D663 (Or.inl (hw _ (List.mem_of_getElem? (i := 66) rfl))) (ty := .boolean) (by decide)
  refine Gl.go (fun _ hr => zXS_dup X663.here hx rfl (hb hby at_57) rfl rfl hr) ?_
  have zz665 : n0 ≤ h663.size := by omega
  refine gSpecialN Gl.cl (y := (⟨"com/example/evenkeel/evenkeel/share/FlooredSum", "<init>", "()V"⟩ : MethodName)) (b := b663) (argsL := []) (rest := [(.ref b663)]) (mc := 0) (ms := 0) X663 hx hZ hown rfl (mvT hZ (hw _ (List.mem_of_getElem? (i := 7) rfl))) (mvT hZ (hw _ (List.mem_of_getElem? (i := 8) rfl))) (mvT hZ (hw _ (List.mem_of_getElem? (i := 9) rfl))) (by decide) (backOf (W := 1) (ini l Z a0 hw [] b663 h663 n0 zz665 A663 (by omega) F663_point F663_limb0 F663_limb1 F663_limb2 F663_limb3 F663_known) hZ (hw _ (List.mem_of_getElem? (i := 9) rfl)) (hw _ (List.mem_of_getElem? (i := 6) rfl)) (by decide) (by decide)) rfl (by rw [hml]; rfl) (lenOf pd_6 rfl) rfl (by show 2 * 0 + _ ≤ _; exact Nat.le_of_eq rfl) (hb hby at_58) rfl e663 (by decide) (by decide) ?_
  intro v665 T665 Lc665 hQ665 X665
  obtain ⟨rfl, Nq665, K665, f665_0, f665_1, f665_2, f665_3, f665_4, f665_5, f665_6⟩ := hQ665
  have z666 : h663.size ≤ T665.heap.size := K665.1
  have N665 := Fr.app N660 Nq665
  have lt667 := own_alt f665_0.lt
  have lt668 := own_alt f665_1.lt
  have lt669 := own_alt f665_2.lt
  have lt670 := own_alt f665_3.lt
  have lt671 := own_alt f665_4.lt
  have lt672 := own_alt f665_5.lt
  have lt673 := own_alt f665_6.lt
  refine Gl.go (fun _ hr => zXS_astore X665.here hx rfl (hb hby at_61) rfl rfl (l' := #[sJ i0, sS, sJ i1, sS, sJ i2, sS, sJ i3, sS, sJ i4, sS, sI i5, sJ (i0 >>> ((2 : Int32).toInt64 &&& 63)), sS, sJ (i1 &&& (9223372036854775807 : Int64)), sS, sJ (fPt i3), sS, sI md, .val (.ref b663), sU, sU, sU, sU]) rfl hr) ?_
  refine gNew Gl.cl X665 hx hZ hown (hw _ (List.mem_of_getElem? (i := 4) rfl)) (hw _ (List.mem_of_getElem? (i := 5) rfl)) (hw _ (List.mem_of_getElem? (i := 6) rfl)) (rfl : T665.heap = T665.heap) rfl (hb hby at_63) (by decide) (by decide) ?_
  intro T674 h674 b674 g674 X674 e674 E674 A674 D674
  have z675 : T665.heap.size ≤ h674.size := E674.1
  have lt674 := own_alt A674.lt
  have F674_point : Fld Z h674 b674 "com/example/evenkeel/evenkeel/share/FlooredSum" "point" "J" (.long (0 : Int64)) := D674 (Or.inl (hw _ (List.mem_of_getElem? (i := 15) rfl))) (ty := .long) (by decide)
  have F674_limb0 : Fld Z h674 b674 "com/example/evenkeel/evenkeel/share/FlooredSum" "limb0" "J" (.long (0 : Int64)) := D674 (Or.inl (hw _ (List.mem_of_getElem? (i := 28) rfl))) (ty := .long) (by decide)
  have F674_limb1 : Fld Z h674 b674 "com/example/evenkeel/evenkeel/share/FlooredSum" "limb1" "J" (.long (0 : Int64)) := D674 (Or.inl (hw _ (List.mem_of_getElem? (i := 30) rfl))) (ty := .long) (by decide)
  have F674_limb2 : Fld Z h674 b674 "com/example/evenkeel/evenkeel/share/FlooredSum" "limb2" "J" (.long (0 : Int64)) := D674 (Or.inl (hw _ (List.mem_of_getElem? (i := 32) rfl))) (ty := .long) (by decide)
  have F674_limb3 : Fld Z h674 b674 "com/example/evenkeel/evenkeel/share/FlooredSum" "limb3" "J" (.long (0 : Int64)) := D674 (Or.inl (hw _ (List.mem_of_getElem? (i := 34) rfl))) (ty := .long) (by decide)
  have F674_known : Fld Z h674 b674 "com/example/evenkeel/evenkeel/share/FlooredSum" "known" "Z" (.int (0 : Int32)) := D674 (Or.inl (hw _ (List.mem_of_getElem? (i := 66) rfl))) (ty := .boolean) (by decide)
  refine Gl.go (fun _ hr => zXS_dup X674.here hx rfl (hb hby at_66) rfl rfl hr) ?_
  have zz676 : n0 ≤ h674.size := by omega
  refine gSpecialN Gl.cl (y := (⟨"com/example/evenkeel/evenkeel/share/FlooredSum", "<init>", "()V"⟩ : MethodName)) (b := b674) (argsL := []) (rest := [(.ref b674)]) (mc := 0) (ms := 0) X674 hx hZ hown rfl (mvT hZ (hw _ (List.mem_of_getElem? (i := 7) rfl))) (mvT hZ (hw _ (List.mem_of_getElem? (i := 8) rfl))) (mvT hZ (hw _ (List.mem_of_getElem? (i := 9) rfl))) (by decide) (backOf (W := 1) (ini l Z a0 hw [] b674 h674 n0 zz676 A674 (by omega) F674_point F674_limb0 F674_limb1 F674_limb2 F674_limb3 F674_known) hZ (hw _ (List.mem_of_getElem? (i := 9) rfl)) (hw _ (List.mem_of_getElem? (i := 6) rfl)) (by decide) (by decide)) rfl (by rw [hml]; rfl) (lenOf pd_6 rfl) rfl (by show 2 * 0 + _ ≤ _; exact Nat.le_of_eq rfl) (hb hby at_67) rfl e674 (by decide) (by decide) ?_
  intro v676 T676 Lc676 hQ676 X676
  obtain ⟨rfl, Nq676, K676, f676_0, f676_1, f676_2, f676_3, f676_4, f676_5, f676_6⟩ := hQ676
  have z677 : h674.size ≤ T676.heap.size := K676.1
  have N676 := Fr.app N665 Nq676
  have lt678 := own_alt f676_0.lt
  have lt679 := own_alt f676_1.lt
  have lt680 := own_alt f676_2.lt
  have lt681 := own_alt f676_3.lt
  have lt682 := own_alt f676_4.lt
  have lt683 := own_alt f676_5.lt
  have lt684 := own_alt f676_6.lt
  refine Gl.go (fun _ hr => zXS_astore X676.here hx rfl (hb hby at_70) rfl rfl (l' := #[sJ i0, sS, sJ i1, sS, sJ i2, sS, sJ i3, sS, sJ i4, sS, sI i5, sJ (i0 >>> ((2 : Int32).toInt64 &&& 63)), sS, sJ (i1 &&& (9223372036854775807 : Int64)), sS, sJ (fPt i3), sS, sI md, .val (.ref b663), .val (.ref b674), sU, sU, sU]) rfl (zXS_iload X676.here hx rfl (hb hby at_72) rfl (zXS_iconst X676.here hx rfl (hb hby at_74) hr))) ?_
  by_cases hc685 : md < (4 : Int32)
  · refine Gl.go (fun _ hr => zXS_icmpNo X676.here hx rfl (hb hby at_75) rfl (XT.ii_ge_f hc685) (zXT_lload X676.here hx rfl (hb hby at_78) rfl (zXS_iconst X676.here hx rfl (hb hby at_80) (zXT_lshr X676.here hx rfl (hb hby at_81) rfl hr)))) ?_
    show Gl p.tables e below _ (T676.setTop (mkF m 82 #[sJ i0, sS, sJ i1, sS, sJ i2, sS, sJ i3, sS, sJ i4, sS, sI i5, sJ (i0 >>> ((2 : Int32).toInt64 &&& 63)), sS, sJ (i1 &&& (9223372036854775807 : Int64)), sS, sJ (fPt i3), sS, sI md, .val (.ref b663), .val (.ref b674), sU, sU, sU] [(.long (i4 >>> ((3 : Int32).toInt64 &&& 63)))]))
    obtain ⟨dl, hq_dl⟩ : ∃ q, q = (i4 >>> ((3 : Int32).toInt64 &&& 63)) := ⟨_, rfl⟩
    rw [← hq_dl]
    have hdb : -1152921504606846976 ≤ dl.toInt ∧ dl.toInt < 1152921504606846976 := by rw [hq_dl]; exact own_dl _
    have hdm : -9223372036854775808 < dl.toInt := by omega
    show Gl p.tables e below _ (T676.setTop (mkF m 82 #[sJ i0, sS, sJ i1, sS, sJ i2, sS, sJ i3, sS, sJ i4, sS, sI i5, sJ (i0 >>> ((2 : Int32).toInt64 &&& 63)), sS, sJ (i1 &&& (9223372036854775807 : Int64)), sS, sJ (fPt i3), sS, sI md, .val (.ref b663), .val (.ref b674), sU, sU, sU] [(.long dl)]))
    refine Gl.go (fun _ hr => zXT_lstore X676.here hx rfl (hb hby at_82) rfl (l' := #[sJ i0, sS, sJ i1, sS, sJ i2, sS, sJ i3, sS, sJ i4, sS, sI i5, sJ (i0 >>> ((2 : Int32).toInt64 &&& 63)), sS, sJ (i1 &&& (9223372036854775807 : Int64)), sS, sJ (fPt i3), sS, sI md, .val (.ref b663), .val (.ref b674), sU, sJ dl, sS]) rfl (zXS_aload X676.here hx rfl (hb hby at_84) rfl rfl (zXT_lload X676.here hx rfl (hb hby at_86) rfl (zXT_lload X676.here hx rfl (hb hby at_88) rfl (zXT_lload X676.here hx rfl (hb hby at_90) rfl (zXT_lload X676.here hx rfl (hb hby at_92) rfl hr)))))) ?_
    have Ec687 := ((f665_0.ext E674).keep K676)
    have Fc688 := ((f665_1.ext E674).keep K676 (ninS (own_ane (by omega)) nin0))
    have Fc689 := ((f665_2.ext E674).keep K676 (ninS (own_ane (by omega)) nin0))
    have Fc690 := ((f665_3.ext E674).keep K676 (ninS (own_ane (by omega)) nin0))
    have Fc691 := ((f665_4.ext E674).keep K676 (ninS (own_ane (by omega)) nin0))
    have Fc692 := ((f665_5.ext E674).keep K676 (ninS (own_ane (by omega)) nin0))
    have Fc693 := ((f665_6.ext E674).keep K676 (ninS (own_ane (by omega)) nin0))
    have zz686 : n0 ≤ T676.heap.size := by omega
    refine gVirtualN Gl.cl (y := (⟨"com/example/evenkeel/evenkeel/share/FlooredSum", "add", "(JJJJ)V"⟩ : MethodName)) (z := (⟨"com/example/evenkeel/evenkeel/share/FlooredSum", "add", "(JJJJ)V"⟩ : MethodName)) (b := b663) (argsL := [(.long (i0 >>> ((2 : Int32).toInt64 &&& 63))), (.long (i1 &&& (9223372036854775807 : Int64))), (.long i2), (.long (fPt i3))]) (rest := []) (mc := 0) (ms := 0) X676 hx hZ hown (mvT hZ (hw _ (List.mem_of_getElem? (i := 16) rfl))) (mvT hZ (hw _ (List.mem_of_getElem? (i := 17) rfl))) (notFace_of_selects (args := #[]) (mvT hZ (hw _ (List.mem_of_getElem? (i := 19) rfl)))) (mvT hZ (hw _ (List.mem_of_getElem? (i := 19) rfl))) (mvT hZ (hw _ (List.mem_of_getElem? (i := 18) rfl))) (by decide) Ec687 (backOf (W := 0) (addA l Z a0 hw [] b663 (i0 >>> ((2 : Int32).toInt64 &&& 63)) (i1 &&& (9223372036854775807 : Int64)) i2 (fPt i3) T676.heap n0 zz686 Ec687 (by omega) Fc688 Fc689 Fc690 Fc691 Fc692 Fc693) hZ (hw _ (List.mem_of_getElem? (i := 20) rfl)) (hw _ (List.mem_of_getElem? (i := 6) rfl)) (by decide) (by decide)) rfl (by rw [hml]; rfl) (lenOf pd_7 rfl) rfl (by show 2 * 0 + _ ≤ _; exact Nat.le_of_eq rfl) (hb hby at_94) rfl (rfl : T676.heap = T676.heap) (by decide) (by decide) ?_
    intro v686 T686 Lc686 hQ686 X686
    obtain ⟨m0_686, m1_686, m2_686, m3_686, rfl, Nq686, K686, f686_0, f686_1, f686_2, f686_3, f686_4, f686_5, f686_6, p686_eq, p686_sg⟩ := hQ686
    have z694 : T676.heap.size ≤ T686.heap.size := K686.1
    have N686 := Fr.app N676 Nq686
    have lt695 := own_alt f686_0.lt
    have lt696 := own_alt f686_1.lt
    have lt697 := own_alt f686_2.lt
    have lt698 := own_alt f686_3.lt
    have lt699 := own_alt f686_4.lt
    have lt700 := own_alt f686_5.lt
    have lt701 := own_alt f686_6.lt
    refine Gl.go (fun _ hr => zXS_aload X686.here hx rfl (hb hby at_97) rfl rfl (zXT_lload X686.here hx rfl (hb hby at_99) rfl (zXT_lload X686.here hx rfl (hb hby at_101) rfl (zXT_lload X686.here hx rfl (hb hby at_103) rfl (zXT_lload X686.here hx rfl (hb hby at_105) rfl hr))))) ?_
    have Ec703 := (f676_0.keep K686)
    have Fc704 := (f676_1.keep K686 (ninS (own_ane (by omega)) nin0))
    have Fc705 := (f676_2.keep K686 (ninS (own_ane (by omega)) nin0))
    have Fc706 := (f676_3.keep K686 (ninS (own_ane (by omega)) nin0))
    have Fc707 := (f676_4.keep K686 (ninS (own_ane (by omega)) nin0))
    have Fc708 := (f676_5.keep K686 (ninS (own_ane (by omega)) nin0))
    have Fc709 := (f676_6.keep K686 (ninS (own_ane (by omega)) nin0))
    have zz702 : n0 ≤ T686.heap.size := by omega
    refine gVirtualN Gl.cl (y := (⟨"com/example/evenkeel/evenkeel/share/FlooredSum", "add", "(JJJJ)V"⟩ : MethodName)) (z := (⟨"com/example/evenkeel/evenkeel/share/FlooredSum", "add", "(JJJJ)V"⟩ : MethodName)) (b := b674) (argsL := [(.long (i0 >>> ((2 : Int32).toInt64 &&& 63))), (.long (i1 &&& (9223372036854775807 : Int64))), (.long i2), (.long (fPt i3))]) (rest := []) (mc := 0) (ms := 0) X686 hx hZ hown (mvT hZ (hw _ (List.mem_of_getElem? (i := 16) rfl))) (mvT hZ (hw _ (List.mem_of_getElem? (i := 17) rfl))) (notFace_of_selects (args := #[]) (mvT hZ (hw _ (List.mem_of_getElem? (i := 19) rfl)))) (mvT hZ (hw _ (List.mem_of_getElem? (i := 19) rfl))) (mvT hZ (hw _ (List.mem_of_getElem? (i := 18) rfl))) (by decide) Ec703 (backOf (W := 0) (addA l Z a0 hw [] b674 (i0 >>> ((2 : Int32).toInt64 &&& 63)) (i1 &&& (9223372036854775807 : Int64)) i2 (fPt i3) T686.heap n0 zz702 Ec703 (by omega) Fc704 Fc705 Fc706 Fc707 Fc708 Fc709) hZ (hw _ (List.mem_of_getElem? (i := 20) rfl)) (hw _ (List.mem_of_getElem? (i := 6) rfl)) (by decide) (by decide)) rfl (by rw [hml]; rfl) (lenOf pd_7 rfl) rfl (by show 2 * 0 + _ ≤ _; exact Nat.le_of_eq rfl) (hb hby at_107) rfl (rfl : T686.heap = T686.heap) (by decide) (by decide) ?_
    intro v702 T702 Lc702 hQ702 X702
    obtain ⟨m0_702, m1_702, m2_702, m3_702, rfl, Nq702, K702, f702_0, f702_1, f702_2, f702_3, f702_4, f702_5, f702_6, p702_eq, p702_sg⟩ := hQ702
    have z710 : T686.heap.size ≤ T702.heap.size := K702.1
    have N702 := Fr.app N686 Nq702
    have lt711 := own_alt f702_0.lt
    have lt712 := own_alt f702_1.lt
    have lt713 := own_alt f702_2.lt
    have lt714 := own_alt f702_3.lt
    have lt715 := own_alt f702_4.lt
    have lt716 := own_alt f702_5.lt
    have lt717 := own_alt f702_6.lt
    refine Gl.go (fun _ hr => zXS_iload X702.here hx rfl (hb hby at_110) rfl hr) ?_
    by_cases hc718 : md = (0 : Int32)
    · refine Gl.go (fun _ hr => zXS_ifNo X702.here hx rfl (hb hby at_112) rfl (XT.i0_ne_f hc718) (zXS_aload X702.here hx rfl (hb hby at_115) rfl rfl (zXT_lload X702.here hx rfl (hb hby at_117) rfl (zXT_lconst X702.here hx rfl (hb hby at_119) (zXT_lconst X702.here hx rfl (hb hby at_120) (zXT_lload X702.here hx rfl (hb hby at_121) rfl hr)))))) ?_
      by_cases hz : dl = (0 : Int64)
      · show Gl p.tables e below _ (T702.setTop (mkF m 123 #[sJ i0, sS, sJ i1, sS, sJ i2, sS, sJ i3, sS, sJ i4, sS, sI i5, sJ (i0 >>> ((2 : Int32).toInt64 &&& 63)), sS, sJ (i1 &&& (9223372036854775807 : Int64)), sS, sJ (fPt i3), sS, sI md, .val (.ref b663), .val (.ref b674), sU, sJ dl, sS] [(.long (fPt i3)), (.long (1 : Int64)), (.long (0 : Int64)), (.long dl), (.ref b674)]))
        have zz719 : n0 ≤ T702.heap.size := by omega
        refine gVirtualN Gl.cl (y := (⟨"com/example/evenkeel/evenkeel/share/FlooredSum", "add", "(JJJJ)V"⟩ : MethodName)) (z := (⟨"com/example/evenkeel/evenkeel/share/FlooredSum", "add", "(JJJJ)V"⟩ : MethodName)) (b := b674) (argsL := [(.long dl), (.long (0 : Int64)), (.long (1 : Int64)), (.long (fPt i3))]) (rest := []) (mc := 0) (ms := 0) X702 hx hZ hown (mvT hZ (hw _ (List.mem_of_getElem? (i := 16) rfl))) (mvT hZ (hw _ (List.mem_of_getElem? (i := 17) rfl))) (notFace_of_selects (args := #[]) (mvT hZ (hw _ (List.mem_of_getElem? (i := 19) rfl)))) (mvT hZ (hw _ (List.mem_of_getElem? (i := 19) rfl))) (mvT hZ (hw _ (List.mem_of_getElem? (i := 18) rfl))) (by decide) f702_0 (backOf (W := 0) (addZ l Z a0 hw [] b674 dl (0 : Int64) (1 : Int64) (fPt i3) (fPt i3) m0_702 m1_702 m2_702 m3_702 T702.heap n0 zz719 f702_0 (by omega) f702_1 f702_2 f702_3 f702_4 f702_5 f702_6 (fPt_ne _) (own_irrJ _) hz) hZ (hw _ (List.mem_of_getElem? (i := 20) rfl)) (hw _ (List.mem_of_getElem? (i := 6) rfl)) (by decide) (by decide)) rfl (by rw [hml]; rfl) (lenOf pd_7 rfl) rfl (by show 2 * 0 + _ ≤ _; exact Nat.le_of_eq rfl) (hb hby at_123) rfl (rfl : T702.heap = T702.heap) (by decide) (by decide) ?_
        intro v719 T719 Lc719 hQ719 X719
        obtain ⟨rfl, Nq719, e719⟩ := hQ719
        have N719 := Fr.app N702 Nq719
        refine Gl.go (fun _ hr => zXS_goto X719.here hx rfl (pc0 := 126) (pc' := 192) rfl (hb hby at_126) (by decide) (by decide) (zXT_lload X719.here hx rfl (hb hby at_192) rfl (zXT_lconst X719.here hx rfl (hb hby at_194) (zXT_lcmp X719.here hx rfl (hb hby at_195) rfl hr)))) ?_
        refine Gl.go (fun _ hr => zXS_ifNo X719.here hx rfl (hb hby at_196) rfl (XT.ll_ne_f hz) (zXS_iconst X719.here hx rfl (hb hby at_199) (zXS_goto X719.here hx rfl (pc0 := 200) (pc' := 204) rfl (hb hby at_200) (by decide) (by decide) (zXS_istore X719.here hx rfl (hb hby at_204) rfl (l' := #[sJ i0, sS, sJ i1, sS, sJ i2, sS, sJ i3, sS, sJ i4, sS, sI i5, sJ (i0 >>> ((2 : Int32).toInt64 &&& 63)), sS, sJ (i1 &&& (9223372036854775807 : Int64)), sS, sJ (fPt i3), sS, sI md, .val (.ref b663), .val (.ref b674), sI 1, sJ dl, sS]) rfl (zXS_goto X719.here hx rfl (pc0 := 206) (pc' := 324) rfl (hb hby at_206) (by decide) (by decide) (zXS_aload X719.here hx rfl (hb hby at_324) rfl rfl (zXS_aload X719.here hx rfl (hb hby at_326) rfl rfl hr))))))) ?_
        have Fc721 := (f686_1.keep K702 (ninS (own_ane (by omega)) nin0))
        have Fc722 := (f686_2.keep K702 (ninS (own_ane (by omega)) nin0))
        have Fc723 := (f686_3.keep K702 (ninS (own_ane (by omega)) nin0))
        have Fc724 := (f686_4.keep K702 (ninS (own_ane (by omega)) nin0))
        have Fc725 := (f686_5.keep K702 (ninS (own_ane (by omega)) nin0))
        have zz720 : n0 ≤ T702.heap.size := by omega
        have Ec726 := (f686_0.keep K702)
        refine gVirtualN Gl.cl (y := (⟨"com/example/evenkeel/evenkeel/share/FlooredSum", "sameAs", "(Lcom/example/evenkeel/evenkeel/share/FlooredSum;)Z"⟩ : MethodName)) (z := (⟨"com/example/evenkeel/evenkeel/share/FlooredSum", "sameAs", "(Lcom/example/evenkeel/evenkeel/share/FlooredSum;)Z"⟩ : MethodName)) (b := b663) (argsL := [(.ref b674)]) (rest := []) (mc := 0) (ms := 0) X719 hx hZ hown (mvT hZ (hw _ (List.mem_of_getElem? (i := 22) rfl))) (mvT hZ (hw _ (List.mem_of_getElem? (i := 23) rfl))) (notFace_of_selects (args := #[]) (mvT hZ (hw _ (List.mem_of_getElem? (i := 25) rfl)))) (mvT hZ (hw _ (List.mem_of_getElem? (i := 25) rfl))) (mvT hZ (hw _ (List.mem_of_getElem? (i := 24) rfl))) (by decide) Ec726 (backOf (W := 0) (sam l Z a0 hw [] b663 b674 (fPt i3) m0_686 m1_686 m2_686 m3_686 (fPt i3) m0_702 m1_702 m2_702 m3_702 T702.heap n0 zz720 Fc721 Fc722 Fc723 Fc724 Fc725 f702_1 f702_2 f702_3 f702_4 f702_5) hZ (hw _ (List.mem_of_getElem? (i := 26) rfl)) (hw _ (List.mem_of_getElem? (i := 6) rfl)) (by decide) (by decide)) rfl (by rw [hml]; rfl) (lenOf pd_8 rfl) rfl (by show 2 * 0 + _ ≤ _; exact Nat.le_of_eq rfl) (hb hby at_328) rfl e719 (by decide) (by decide) ?_
        intro v720 T720 Lc720 hQ720 X720
        obtain ⟨rfl, Nq720, e720⟩ := hQ720
        have N720 := Fr.app N719 Nq720
        refine Gl.go (fun _ hr => zXS_iload X720.here hx rfl (hb hby at_331) rfl hr) ?_
        refine Gl.go (fun _ hr => zXS_icmpNo X720.here hx rfl (hb hby at_333) rfl (XT.ii_ne_f (own_same_eq rfl p686_eq p702_eq)) (zXS_aload X720.here hx rfl (hb hby at_336) rfl rfl (zXS_aload X720.here hx rfl (hb hby at_338) rfl rfl hr))) ?_
        have zz727 : n0 ≤ T702.heap.size := by omega
        refine gVirtualN Gl.cl (y := (⟨"com/example/evenkeel/evenkeel/share/FlooredSum", "sameAs", "(Lcom/example/evenkeel/evenkeel/share/FlooredSum;)Z"⟩ : MethodName)) (z := (⟨"com/example/evenkeel/evenkeel/share/FlooredSum", "sameAs", "(Lcom/example/evenkeel/evenkeel/share/FlooredSum;)Z"⟩ : MethodName)) (b := b674) (argsL := [(.ref b663)]) (rest := []) (mc := 0) (ms := 0) X720 hx hZ hown (mvT hZ (hw _ (List.mem_of_getElem? (i := 22) rfl))) (mvT hZ (hw _ (List.mem_of_getElem? (i := 23) rfl))) (notFace_of_selects (args := #[]) (mvT hZ (hw _ (List.mem_of_getElem? (i := 25) rfl)))) (mvT hZ (hw _ (List.mem_of_getElem? (i := 25) rfl))) (mvT hZ (hw _ (List.mem_of_getElem? (i := 24) rfl))) (by decide) f702_0 (backOf (W := 0) (sam l Z a0 hw [] b674 b663 (fPt i3) m0_702 m1_702 m2_702 m3_702 (fPt i3) m0_686 m1_686 m2_686 m3_686 T702.heap n0 zz727 f702_1 f702_2 f702_3 f702_4 f702_5 Fc721 Fc722 Fc723 Fc724 Fc725) hZ (hw _ (List.mem_of_getElem? (i := 26) rfl)) (hw _ (List.mem_of_getElem? (i := 6) rfl)) (by decide) (by decide)) rfl (by rw [hml]; rfl) (lenOf pd_8 rfl) rfl (by show 2 * 0 + _ ≤ _; exact Nat.le_of_eq rfl) (hb hby at_340) rfl e720 (by decide) (by decide) ?_
        intro v727 T727 Lc727 hQ727 X727
        obtain ⟨rfl, Nq727, e727⟩ := hQ727
        have N727 := Fr.app N720 Nq727
        refine Gl.go (fun _ hr => zXS_iload X727.here hx rfl (hb hby at_343) rfl hr) ?_
        refine Gl.go (fun _ hr => zXS_icmpNo X727.here hx rfl (hb hby at_345) rfl (XT.ii_ne_f (own_sym (own_same_eq rfl p686_eq p702_eq))) (zXS_aload X727.here hx rfl (hb hby at_348) rfl rfl (zXS_aload X727.here hx rfl (hb hby at_350) rfl rfl hr))) ?_
        have zz728 : n0 ≤ T702.heap.size := by omega
        refine gVirtualN Gl.cl (y := (⟨"com/example/evenkeel/evenkeel/share/FlooredSum", "sameAs", "(Lcom/example/evenkeel/evenkeel/share/FlooredSum;)Z"⟩ : MethodName)) (z := (⟨"com/example/evenkeel/evenkeel/share/FlooredSum", "sameAs", "(Lcom/example/evenkeel/evenkeel/share/FlooredSum;)Z"⟩ : MethodName)) (b := b663) (argsL := [(.ref b663)]) (rest := []) (mc := 0) (ms := 0) X727 hx hZ hown (mvT hZ (hw _ (List.mem_of_getElem? (i := 22) rfl))) (mvT hZ (hw _ (List.mem_of_getElem? (i := 23) rfl))) (notFace_of_selects (args := #[]) (mvT hZ (hw _ (List.mem_of_getElem? (i := 25) rfl)))) (mvT hZ (hw _ (List.mem_of_getElem? (i := 25) rfl))) (mvT hZ (hw _ (List.mem_of_getElem? (i := 24) rfl))) (by decide) Ec726 (backOf (W := 0) (sam l Z a0 hw [] b663 b663 (fPt i3) m0_686 m1_686 m2_686 m3_686 (fPt i3) m0_686 m1_686 m2_686 m3_686 T702.heap n0 zz728 Fc721 Fc722 Fc723 Fc724 Fc725 Fc721 Fc722 Fc723 Fc724 Fc725) hZ (hw _ (List.mem_of_getElem? (i := 26) rfl)) (hw _ (List.mem_of_getElem? (i := 6) rfl)) (by decide) (by decide)) rfl (by rw [hml]; rfl) (lenOf pd_8 rfl) rfl (by show 2 * 0 + _ ≤ _; exact Nat.le_of_eq rfl) (hb hby at_352) rfl e727 (by decide) (by decide) ?_
        intro v728 T728 Lc728 hQ728 X728
        obtain ⟨rfl, Nq728, e728⟩ := hQ728
        have N728 := Fr.app N727 Nq728
        refine Gl.go (fun _ hr => zXS_ifNo X728.here hx rfl (hb hby at_355) rfl (XT.i0_eq_f (by rw [own_same_refl]; decide)) (zXS_iconst X728.here hx rfl (hb hby at_358) (zXS_goto X728.here hx rfl (pc0 := 359) (pc' := 363) rfl (hb hby at_359) (by decide) (by decide) hr))) ?_
        obtain ⟨fs, hr, hrun, hended, hW, hsame⟩ := X728.leave (v := some (.int (1 : Int32))) (fun h => by rw [Bd.returns] at h; cases h)
        refine ⟨_, _, retN X728 hx (t := .boolean) Bd.returns (by simp) (hb hby at_363) hr, hrun, hended, _, _, rfl, ?_, ⟨⟨_, rfl⟩, hW, hsame.mono (by decide) (by decide)⟩⟩
        show Qlawrm Z i0 i1 i2 i3 i4 i5 h0 n0 _ T728.heap _
        rw [e728]
        exact ⟨rfl, N728, (((((((Keep.refl h0 []).ext E663).trans K665 (allS (P := fun x_ => x_ ∈ ([] : List Addr) ∨ h0.size ≤ x_) (Or.inr (own_ale (by omega))) all0)).ext E674).trans K676 (allS (P := fun x_ => x_ ∈ ([] : List Addr) ∨ h0.size ≤ x_) (Or.inr (own_ale (by omega))) all0)).trans K686 (allS (P := fun x_ => x_ ∈ ([] : List Addr) ∨ h0.size ≤ x_) (Or.inr (own_ale (by omega))) all0)).trans K702 (allS (P := fun x_ => x_ ∈ ([] : List Addr) ∨ h0.size ≤ x_) (Or.inr (own_ale (by omega))) all0))⟩
      · show Gl p.tables e below _ (T702.setTop (mkF m 123 #[sJ i0, sS, sJ i1, sS, sJ i2, sS, sJ i3, sS, sJ i4, sS, sI i5, sJ (i0 >>> ((2 : Int32).toInt64 &&& 63)), sS, sJ (i1 &&& (9223372036854775807 : Int64)), sS, sJ (fPt i3), sS, sI md, .val (.ref b663), .val (.ref b674), sU, sJ dl, sS] [(.long (fPt i3)), (.long (1 : Int64)), (.long (0 : Int64)), (.long dl), (.ref b674)]))
        have zz729 : n0 ≤ T702.heap.size := by omega
        refine gVirtualN Gl.cl (y := (⟨"com/example/evenkeel/evenkeel/share/FlooredSum", "add", "(JJJJ)V"⟩ : MethodName)) (z := (⟨"com/example/evenkeel/evenkeel/share/FlooredSum", "add", "(JJJJ)V"⟩ : MethodName)) (b := b674) (argsL := [(.long dl), (.long (0 : Int64)), (.long (1 : Int64)), (.long (fPt i3))]) (rest := []) (mc := 0) (ms := 0) X702 hx hZ hown (mvT hZ (hw _ (List.mem_of_getElem? (i := 16) rfl))) (mvT hZ (hw _ (List.mem_of_getElem? (i := 17) rfl))) (notFace_of_selects (args := #[]) (mvT hZ (hw _ (List.mem_of_getElem? (i := 19) rfl)))) (mvT hZ (hw _ (List.mem_of_getElem? (i := 19) rfl))) (mvT hZ (hw _ (List.mem_of_getElem? (i := 18) rfl))) (by decide) f702_0 (backOf (W := 0) (addB0 l Z a0 hw [] b674 dl (fPt i3) m0_702 m1_702 m2_702 m3_702 T702.heap n0 zz729 f702_0 (by omega) f702_1 f702_2 f702_3 f702_4 f702_5 f702_6 (fPt_ne _) p702_sg hz (own_mag0 hdm) (own_magne hdm hz) (own_negne (own_magne hdm hz))) hZ (hw _ (List.mem_of_getElem? (i := 20) rfl)) (hw _ (List.mem_of_getElem? (i := 6) rfl)) (by decide) (by decide)) rfl (by rw [hml]; rfl) (lenOf pd_7 rfl) rfl (by show 2 * 0 + _ ≤ _; exact Nat.le_of_eq rfl) (hb hby at_123) rfl (rfl : T702.heap = T702.heap) (by decide) (by decide) ?_
        intro v729 T729 Lc729 hQ729 X729
        obtain ⟨m0_729, m1_729, m2_729, m3_729, rfl, Nq729, K729, f729_0, f729_1, f729_2, f729_3, f729_4, f729_5, f729_6, p729_df⟩ := hQ729
        have z730 : T702.heap.size ≤ T729.heap.size := K729.1
        have N729 := Fr.app N702 Nq729
        have lt731 := own_alt f729_0.lt
        have lt732 := own_alt f729_1.lt
        have lt733 := own_alt f729_2.lt
        have lt734 := own_alt f729_3.lt
        have lt735 := own_alt f729_4.lt
        have lt736 := own_alt f729_5.lt
        have lt737 := own_alt f729_6.lt
        refine Gl.go (fun _ hr => zXS_goto X729.here hx rfl (pc0 := 126) (pc' := 192) rfl (hb hby at_126) (by decide) (by decide) (zXT_lload X729.here hx rfl (hb hby at_192) rfl (zXT_lconst X729.here hx rfl (hb hby at_194) (zXT_lcmp X729.here hx rfl (hb hby at_195) rfl hr)))) ?_
        refine Gl.go (fun _ hr => zXS_ifYes X729.here hx rfl (pc0 := 196) (pc' := 203) rfl (hb hby at_196) rfl (XT.ll_ne_t hz) (by decide) (by decide) (zXS_iconst X729.here hx rfl (hb hby at_203) (zXS_istore X729.here hx rfl (hb hby at_204) rfl (l' := #[sJ i0, sS, sJ i1, sS, sJ i2, sS, sJ i3, sS, sJ i4, sS, sI i5, sJ (i0 >>> ((2 : Int32).toInt64 &&& 63)), sS, sJ (i1 &&& (9223372036854775807 : Int64)), sS, sJ (fPt i3), sS, sI md, .val (.ref b663), .val (.ref b674), sI 0, sJ dl, sS]) rfl (zXS_goto X729.here hx rfl (pc0 := 206) (pc' := 324) rfl (hb hby at_206) (by decide) (by decide) (zXS_aload X729.here hx rfl (hb hby at_324) rfl rfl (zXS_aload X729.here hx rfl (hb hby at_326) rfl rfl hr)))))) ?_
        have Fc739 := ((f686_1.keep K702 (ninS (own_ane (by omega)) nin0)).keep K729 (ninS (own_ane (by omega)) nin0))
        have Fc740 := ((f686_2.keep K702 (ninS (own_ane (by omega)) nin0)).keep K729 (ninS (own_ane (by omega)) nin0))
        have Fc741 := ((f686_3.keep K702 (ninS (own_ane (by omega)) nin0)).keep K729 (ninS (own_ane (by omega)) nin0))
        have Fc742 := ((f686_4.keep K702 (ninS (own_ane (by omega)) nin0)).keep K729 (ninS (own_ane (by omega)) nin0))
        have Fc743 := ((f686_5.keep K702 (ninS (own_ane (by omega)) nin0)).keep K729 (ninS (own_ane (by omega)) nin0))
        have zz738 : n0 ≤ T729.heap.size := by omega
        have Ec744 := ((f686_0.keep K702).keep K729)
        refine gVirtualN Gl.cl (y := (⟨"com/example/evenkeel/evenkeel/share/FlooredSum", "sameAs", "(Lcom/example/evenkeel/evenkeel/share/FlooredSum;)Z"⟩ : MethodName)) (z := (⟨"com/example/evenkeel/evenkeel/share/FlooredSum", "sameAs", "(Lcom/example/evenkeel/evenkeel/share/FlooredSum;)Z"⟩ : MethodName)) (b := b663) (argsL := [(.ref b674)]) (rest := []) (mc := 0) (ms := 0) X729 hx hZ hown (mvT hZ (hw _ (List.mem_of_getElem? (i := 22) rfl))) (mvT hZ (hw _ (List.mem_of_getElem? (i := 23) rfl))) (notFace_of_selects (args := #[]) (mvT hZ (hw _ (List.mem_of_getElem? (i := 25) rfl)))) (mvT hZ (hw _ (List.mem_of_getElem? (i := 25) rfl))) (mvT hZ (hw _ (List.mem_of_getElem? (i := 24) rfl))) (by decide) Ec744 (backOf (W := 0) (sam l Z a0 hw [] b663 b674 (fPt i3) m0_686 m1_686 m2_686 m3_686 (fPt i3) m0_729 m1_729 m2_729 m3_729 T729.heap n0 zz738 Fc739 Fc740 Fc741 Fc742 Fc743 f729_1 f729_2 f729_3 f729_4 f729_5) hZ (hw _ (List.mem_of_getElem? (i := 26) rfl)) (hw _ (List.mem_of_getElem? (i := 6) rfl)) (by decide) (by decide)) rfl (by rw [hml]; rfl) (lenOf pd_8 rfl) rfl (by show 2 * 0 + _ ≤ _; exact Nat.le_of_eq rfl) (hb hby at_328) rfl (rfl : T729.heap = T729.heap) (by decide) (by decide) ?_
        intro v738 T738 Lc738 hQ738 X738
        obtain ⟨rfl, Nq738, e738⟩ := hQ738
        have N738 := Fr.app N729 Nq738
        refine Gl.go (fun _ hr => zXS_iload X738.here hx rfl (hb hby at_331) rfl hr) ?_
        refine Gl.go (fun _ hr => zXS_icmpNo X738.here hx rfl (hb hby at_333) rfl (XT.ii_ne_f (own_df0 p686_eq p702_eq p729_df)) (zXS_aload X738.here hx rfl (hb hby at_336) rfl rfl (zXS_aload X738.here hx rfl (hb hby at_338) rfl rfl hr))) ?_
        have zz745 : n0 ≤ T729.heap.size := by omega
        refine gVirtualN Gl.cl (y := (⟨"com/example/evenkeel/evenkeel/share/FlooredSum", "sameAs", "(Lcom/example/evenkeel/evenkeel/share/FlooredSum;)Z"⟩ : MethodName)) (z := (⟨"com/example/evenkeel/evenkeel/share/FlooredSum", "sameAs", "(Lcom/example/evenkeel/evenkeel/share/FlooredSum;)Z"⟩ : MethodName)) (b := b674) (argsL := [(.ref b663)]) (rest := []) (mc := 0) (ms := 0) X738 hx hZ hown (mvT hZ (hw _ (List.mem_of_getElem? (i := 22) rfl))) (mvT hZ (hw _ (List.mem_of_getElem? (i := 23) rfl))) (notFace_of_selects (args := #[]) (mvT hZ (hw _ (List.mem_of_getElem? (i := 25) rfl)))) (mvT hZ (hw _ (List.mem_of_getElem? (i := 25) rfl))) (mvT hZ (hw _ (List.mem_of_getElem? (i := 24) rfl))) (by decide) f729_0 (backOf (W := 0) (sam l Z a0 hw [] b674 b663 (fPt i3) m0_729 m1_729 m2_729 m3_729 (fPt i3) m0_686 m1_686 m2_686 m3_686 T729.heap n0 zz745 f729_1 f729_2 f729_3 f729_4 f729_5 Fc739 Fc740 Fc741 Fc742 Fc743) hZ (hw _ (List.mem_of_getElem? (i := 26) rfl)) (hw _ (List.mem_of_getElem? (i := 6) rfl)) (by decide) (by decide)) rfl (by rw [hml]; rfl) (lenOf pd_8 rfl) rfl (by show 2 * 0 + _ ≤ _; exact Nat.le_of_eq rfl) (hb hby at_340) rfl e738 (by decide) (by decide) ?_
        intro v745 T745 Lc745 hQ745 X745
        obtain ⟨rfl, Nq745, e745⟩ := hQ745
        have N745 := Fr.app N738 Nq745
        refine Gl.go (fun _ hr => zXS_iload X745.here hx rfl (hb hby at_343) rfl hr) ?_
        refine Gl.go (fun _ hr => zXS_icmpNo X745.here hx rfl (hb hby at_345) rfl (XT.ii_ne_f (own_sym (own_df0 p686_eq p702_eq p729_df))) (zXS_aload X745.here hx rfl (hb hby at_348) rfl rfl (zXS_aload X745.here hx rfl (hb hby at_350) rfl rfl hr))) ?_
        have zz746 : n0 ≤ T729.heap.size := by omega
        refine gVirtualN Gl.cl (y := (⟨"com/example/evenkeel/evenkeel/share/FlooredSum", "sameAs", "(Lcom/example/evenkeel/evenkeel/share/FlooredSum;)Z"⟩ : MethodName)) (z := (⟨"com/example/evenkeel/evenkeel/share/FlooredSum", "sameAs", "(Lcom/example/evenkeel/evenkeel/share/FlooredSum;)Z"⟩ : MethodName)) (b := b663) (argsL := [(.ref b663)]) (rest := []) (mc := 0) (ms := 0) X745 hx hZ hown (mvT hZ (hw _ (List.mem_of_getElem? (i := 22) rfl))) (mvT hZ (hw _ (List.mem_of_getElem? (i := 23) rfl))) (notFace_of_selects (args := #[]) (mvT hZ (hw _ (List.mem_of_getElem? (i := 25) rfl)))) (mvT hZ (hw _ (List.mem_of_getElem? (i := 25) rfl))) (mvT hZ (hw _ (List.mem_of_getElem? (i := 24) rfl))) (by decide) Ec744 (backOf (W := 0) (sam l Z a0 hw [] b663 b663 (fPt i3) m0_686 m1_686 m2_686 m3_686 (fPt i3) m0_686 m1_686 m2_686 m3_686 T729.heap n0 zz746 Fc739 Fc740 Fc741 Fc742 Fc743 Fc739 Fc740 Fc741 Fc742 Fc743) hZ (hw _ (List.mem_of_getElem? (i := 26) rfl)) (hw _ (List.mem_of_getElem? (i := 6) rfl)) (by decide) (by decide)) rfl (by rw [hml]; rfl) (lenOf pd_8 rfl) rfl (by show 2 * 0 + _ ≤ _; exact Nat.le_of_eq rfl) (hb hby at_352) rfl e745 (by decide) (by decide) ?_
        intro v746 T746 Lc746 hQ746 X746
        obtain ⟨rfl, Nq746, e746⟩ := hQ746
        have N746 := Fr.app N745 Nq746
        refine Gl.go (fun _ hr => zXS_ifNo X746.here hx rfl (hb hby at_355) rfl (XT.i0_eq_f (by rw [own_same_refl]; decide)) (zXS_iconst X746.here hx rfl (hb hby at_358) (zXS_goto X746.here hx rfl (pc0 := 359) (pc' := 363) rfl (hb hby at_359) (by decide) (by decide) hr))) ?_
        obtain ⟨fs, hr, hrun, hended, hW, hsame⟩ := X746.leave (v := some (.int (1 : Int32))) (fun h => by rw [Bd.returns] at h; cases h)
        refine ⟨_, _, retN X746 hx (t := .boolean) Bd.returns (by simp) (hb hby at_363) hr, hrun, hended, _, _, rfl, ?_, ⟨⟨_, rfl⟩, hW, hsame.mono (by decide) (by decide)⟩⟩
        show Qlawrm Z i0 i1 i2 i3 i4 i5 h0 n0 _ T746.heap _
        rw [e746]
        exact ⟨rfl, N746, ((((((((Keep.refl h0 []).ext E663).trans K665 (allS (P := fun x_ => x_ ∈ ([] : List Addr) ∨ h0.size ≤ x_) (Or.inr (own_ale (by omega))) all0)).ext E674).trans K676 (allS (P := fun x_ => x_ ∈ ([] : List Addr) ∨ h0.size ≤ x_) (Or.inr (own_ale (by omega))) all0)).trans K686 (allS (P := fun x_ => x_ ∈ ([] : List Addr) ∨ h0.size ≤ x_) (Or.inr (own_ale (by omega))) all0)).trans K702 (allS (P := fun x_ => x_ ∈ ([] : List Addr) ∨ h0.size ≤ x_) (Or.inr (own_ale (by omega))) all0)).trans K729 (allS (P := fun x_ => x_ ∈ ([] : List Addr) ∨ h0.size ≤ x_) (Or.inr (own_ale (by omega))) all0))⟩
    · refine Gl.go (fun _ hr => zXS_ifYes X702.here hx rfl (pc0 := 112) (pc' := 129) rfl (hb hby at_112) rfl (XT.i0_ne_t hc718) (by decide) (by decide) (zXS_iload X702.here hx rfl (hb hby at_129) rfl (zXS_iconst X702.here hx rfl (hb hby at_131) hr))) ?_
      by_cases hc747 : md = (1 : Int32)
      · refine Gl.go (fun _ hr => zXS_icmpNo X702.here hx rfl (hb hby at_132) rfl (XT.ii_ne_f hc747) (zXS_aload X702.here hx rfl (hb hby at_135) rfl rfl (zXT_lload X702.here hx rfl (hb hby at_137) rfl (zXT_lconst X702.here hx rfl (hb hby at_139) (zXT_lconst X702.here hx rfl (hb hby at_140) (zXT_lload X702.here hx rfl (hb hby at_141) rfl hr)))))) ?_
        by_cases hz : dl = (0 : Int64)
        · show Gl p.tables e below _ (T702.setTop (mkF m 143 #[sJ i0, sS, sJ i1, sS, sJ i2, sS, sJ i3, sS, sJ i4, sS, sI i5, sJ (i0 >>> ((2 : Int32).toInt64 &&& 63)), sS, sJ (i1 &&& (9223372036854775807 : Int64)), sS, sJ (fPt i3), sS, sI md, .val (.ref b663), .val (.ref b674), sU, sJ dl, sS] [(.long (fPt i3)), (.long (0 : Int64)), (.long (1 : Int64)), (.long dl), (.ref b674)]))
          have zz748 : n0 ≤ T702.heap.size := by omega
          refine gVirtualN Gl.cl (y := (⟨"com/example/evenkeel/evenkeel/share/FlooredSum", "add", "(JJJJ)V"⟩ : MethodName)) (z := (⟨"com/example/evenkeel/evenkeel/share/FlooredSum", "add", "(JJJJ)V"⟩ : MethodName)) (b := b674) (argsL := [(.long dl), (.long (1 : Int64)), (.long (0 : Int64)), (.long (fPt i3))]) (rest := []) (mc := 0) (ms := 0) X702 hx hZ hown (mvT hZ (hw _ (List.mem_of_getElem? (i := 16) rfl))) (mvT hZ (hw _ (List.mem_of_getElem? (i := 17) rfl))) (notFace_of_selects (args := #[]) (mvT hZ (hw _ (List.mem_of_getElem? (i := 19) rfl)))) (mvT hZ (hw _ (List.mem_of_getElem? (i := 19) rfl))) (mvT hZ (hw _ (List.mem_of_getElem? (i := 18) rfl))) (by decide) f702_0 (backOf (W := 0) (addZ l Z a0 hw [] b674 dl (1 : Int64) (0 : Int64) (fPt i3) (fPt i3) m0_702 m1_702 m2_702 m3_702 T702.heap n0 zz748 f702_0 (by omega) f702_1 f702_2 f702_3 f702_4 f702_5 f702_6 (fPt_ne _) (own_irrJ _) hz) hZ (hw _ (List.mem_of_getElem? (i := 20) rfl)) (hw _ (List.mem_of_getElem? (i := 6) rfl)) (by decide) (by decide)) rfl (by rw [hml]; rfl) (lenOf pd_7 rfl) rfl (by show 2 * 0 + _ ≤ _; exact Nat.le_of_eq rfl) (hb hby at_143) rfl (rfl : T702.heap = T702.heap) (by decide) (by decide) ?_
          intro v748 T748 Lc748 hQ748 X748
          obtain ⟨rfl, Nq748, e748⟩ := hQ748
          have N748 := Fr.app N702 Nq748
          refine Gl.go (fun _ hr => zXS_goto X748.here hx rfl (pc0 := 146) (pc' := 192) rfl (hb hby at_146) (by decide) (by decide) (zXT_lload X748.here hx rfl (hb hby at_192) rfl (zXT_lconst X748.here hx rfl (hb hby at_194) (zXT_lcmp X748.here hx rfl (hb hby at_195) rfl hr)))) ?_
          refine Gl.go (fun _ hr => zXS_ifNo X748.here hx rfl (hb hby at_196) rfl (XT.ll_ne_f hz) (zXS_iconst X748.here hx rfl (hb hby at_199) (zXS_goto X748.here hx rfl (pc0 := 200) (pc' := 204) rfl (hb hby at_200) (by decide) (by decide) (zXS_istore X748.here hx rfl (hb hby at_204) rfl (l' := #[sJ i0, sS, sJ i1, sS, sJ i2, sS, sJ i3, sS, sJ i4, sS, sI i5, sJ (i0 >>> ((2 : Int32).toInt64 &&& 63)), sS, sJ (i1 &&& (9223372036854775807 : Int64)), sS, sJ (fPt i3), sS, sI md, .val (.ref b663), .val (.ref b674), sI 1, sJ dl, sS]) rfl (zXS_goto X748.here hx rfl (pc0 := 206) (pc' := 324) rfl (hb hby at_206) (by decide) (by decide) (zXS_aload X748.here hx rfl (hb hby at_324) rfl rfl (zXS_aload X748.here hx rfl (hb hby at_326) rfl rfl hr))))))) ?_
          have Fc750 := (f686_1.keep K702 (ninS (own_ane (by omega)) nin0))
          have Fc751 := (f686_2.keep K702 (ninS (own_ane (by omega)) nin0))
          have Fc752 := (f686_3.keep K702 (ninS (own_ane (by omega)) nin0))
          have Fc753 := (f686_4.keep K702 (ninS (own_ane (by omega)) nin0))
          have Fc754 := (f686_5.keep K702 (ninS (own_ane (by omega)) nin0))
          have zz749 : n0 ≤ T702.heap.size := by omega
          have Ec755 := (f686_0.keep K702)
          refine gVirtualN Gl.cl (y := (⟨"com/example/evenkeel/evenkeel/share/FlooredSum", "sameAs", "(Lcom/example/evenkeel/evenkeel/share/FlooredSum;)Z"⟩ : MethodName)) (z := (⟨"com/example/evenkeel/evenkeel/share/FlooredSum", "sameAs", "(Lcom/example/evenkeel/evenkeel/share/FlooredSum;)Z"⟩ : MethodName)) (b := b663) (argsL := [(.ref b674)]) (rest := []) (mc := 0) (ms := 0) X748 hx hZ hown (mvT hZ (hw _ (List.mem_of_getElem? (i := 22) rfl))) (mvT hZ (hw _ (List.mem_of_getElem? (i := 23) rfl))) (notFace_of_selects (args := #[]) (mvT hZ (hw _ (List.mem_of_getElem? (i := 25) rfl)))) (mvT hZ (hw _ (List.mem_of_getElem? (i := 25) rfl))) (mvT hZ (hw _ (List.mem_of_getElem? (i := 24) rfl))) (by decide) Ec755 (backOf (W := 0) (sam l Z a0 hw [] b663 b674 (fPt i3) m0_686 m1_686 m2_686 m3_686 (fPt i3) m0_702 m1_702 m2_702 m3_702 T702.heap n0 zz749 Fc750 Fc751 Fc752 Fc753 Fc754 f702_1 f702_2 f702_3 f702_4 f702_5) hZ (hw _ (List.mem_of_getElem? (i := 26) rfl)) (hw _ (List.mem_of_getElem? (i := 6) rfl)) (by decide) (by decide)) rfl (by rw [hml]; rfl) (lenOf pd_8 rfl) rfl (by show 2 * 0 + _ ≤ _; exact Nat.le_of_eq rfl) (hb hby at_328) rfl e748 (by decide) (by decide) ?_
          intro v749 T749 Lc749 hQ749 X749
          obtain ⟨rfl, Nq749, e749⟩ := hQ749
          have N749 := Fr.app N748 Nq749
          refine Gl.go (fun _ hr => zXS_iload X749.here hx rfl (hb hby at_331) rfl hr) ?_
          refine Gl.go (fun _ hr => zXS_icmpNo X749.here hx rfl (hb hby at_333) rfl (XT.ii_ne_f (own_same_eq rfl p686_eq p702_eq)) (zXS_aload X749.here hx rfl (hb hby at_336) rfl rfl (zXS_aload X749.here hx rfl (hb hby at_338) rfl rfl hr))) ?_
          have zz756 : n0 ≤ T702.heap.size := by omega
          refine gVirtualN Gl.cl (y := (⟨"com/example/evenkeel/evenkeel/share/FlooredSum", "sameAs", "(Lcom/example/evenkeel/evenkeel/share/FlooredSum;)Z"⟩ : MethodName)) (z := (⟨"com/example/evenkeel/evenkeel/share/FlooredSum", "sameAs", "(Lcom/example/evenkeel/evenkeel/share/FlooredSum;)Z"⟩ : MethodName)) (b := b674) (argsL := [(.ref b663)]) (rest := []) (mc := 0) (ms := 0) X749 hx hZ hown (mvT hZ (hw _ (List.mem_of_getElem? (i := 22) rfl))) (mvT hZ (hw _ (List.mem_of_getElem? (i := 23) rfl))) (notFace_of_selects (args := #[]) (mvT hZ (hw _ (List.mem_of_getElem? (i := 25) rfl)))) (mvT hZ (hw _ (List.mem_of_getElem? (i := 25) rfl))) (mvT hZ (hw _ (List.mem_of_getElem? (i := 24) rfl))) (by decide) f702_0 (backOf (W := 0) (sam l Z a0 hw [] b674 b663 (fPt i3) m0_702 m1_702 m2_702 m3_702 (fPt i3) m0_686 m1_686 m2_686 m3_686 T702.heap n0 zz756 f702_1 f702_2 f702_3 f702_4 f702_5 Fc750 Fc751 Fc752 Fc753 Fc754) hZ (hw _ (List.mem_of_getElem? (i := 26) rfl)) (hw _ (List.mem_of_getElem? (i := 6) rfl)) (by decide) (by decide)) rfl (by rw [hml]; rfl) (lenOf pd_8 rfl) rfl (by show 2 * 0 + _ ≤ _; exact Nat.le_of_eq rfl) (hb hby at_340) rfl e749 (by decide) (by decide) ?_
          intro v756 T756 Lc756 hQ756 X756
          obtain ⟨rfl, Nq756, e756⟩ := hQ756
          have N756 := Fr.app N749 Nq756
          refine Gl.go (fun _ hr => zXS_iload X756.here hx rfl (hb hby at_343) rfl hr) ?_
          refine Gl.go (fun _ hr => zXS_icmpNo X756.here hx rfl (hb hby at_345) rfl (XT.ii_ne_f (own_sym (own_same_eq rfl p686_eq p702_eq))) (zXS_aload X756.here hx rfl (hb hby at_348) rfl rfl (zXS_aload X756.here hx rfl (hb hby at_350) rfl rfl hr))) ?_
          have zz757 : n0 ≤ T702.heap.size := by omega
          refine gVirtualN Gl.cl (y := (⟨"com/example/evenkeel/evenkeel/share/FlooredSum", "sameAs", "(Lcom/example/evenkeel/evenkeel/share/FlooredSum;)Z"⟩ : MethodName)) (z := (⟨"com/example/evenkeel/evenkeel/share/FlooredSum", "sameAs", "(Lcom/example/evenkeel/evenkeel/share/FlooredSum;)Z"⟩ : MethodName)) (b := b663) (argsL := [(.ref b663)]) (rest := []) (mc := 0) (ms := 0) X756 hx hZ hown (mvT hZ (hw _ (List.mem_of_getElem? (i := 22) rfl))) (mvT hZ (hw _ (List.mem_of_getElem? (i := 23) rfl))) (notFace_of_selects (args := #[]) (mvT hZ (hw _ (List.mem_of_getElem? (i := 25) rfl)))) (mvT hZ (hw _ (List.mem_of_getElem? (i := 25) rfl))) (mvT hZ (hw _ (List.mem_of_getElem? (i := 24) rfl))) (by decide) Ec755 (backOf (W := 0) (sam l Z a0 hw [] b663 b663 (fPt i3) m0_686 m1_686 m2_686 m3_686 (fPt i3) m0_686 m1_686 m2_686 m3_686 T702.heap n0 zz757 Fc750 Fc751 Fc752 Fc753 Fc754 Fc750 Fc751 Fc752 Fc753 Fc754) hZ (hw _ (List.mem_of_getElem? (i := 26) rfl)) (hw _ (List.mem_of_getElem? (i := 6) rfl)) (by decide) (by decide)) rfl (by rw [hml]; rfl) (lenOf pd_8 rfl) rfl (by show 2 * 0 + _ ≤ _; exact Nat.le_of_eq rfl) (hb hby at_352) rfl e756 (by decide) (by decide) ?_
          intro v757 T757 Lc757 hQ757 X757
          obtain ⟨rfl, Nq757, e757⟩ := hQ757
          have N757 := Fr.app N756 Nq757
          refine Gl.go (fun _ hr => zXS_ifNo X757.here hx rfl (hb hby at_355) rfl (XT.i0_eq_f (by rw [own_same_refl]; decide)) (zXS_iconst X757.here hx rfl (hb hby at_358) (zXS_goto X757.here hx rfl (pc0 := 359) (pc' := 363) rfl (hb hby at_359) (by decide) (by decide) hr))) ?_
          obtain ⟨fs, hr, hrun, hended, hW, hsame⟩ := X757.leave (v := some (.int (1 : Int32))) (fun h => by rw [Bd.returns] at h; cases h)
          refine ⟨_, _, retN X757 hx (t := .boolean) Bd.returns (by simp) (hb hby at_363) hr, hrun, hended, _, _, rfl, ?_, ⟨⟨_, rfl⟩, hW, hsame.mono (by decide) (by decide)⟩⟩
          show Qlawrm Z i0 i1 i2 i3 i4 i5 h0 n0 _ T757.heap _
          rw [e757]
          exact ⟨rfl, N757, (((((((Keep.refl h0 []).ext E663).trans K665 (allS (P := fun x_ => x_ ∈ ([] : List Addr) ∨ h0.size ≤ x_) (Or.inr (own_ale (by omega))) all0)).ext E674).trans K676 (allS (P := fun x_ => x_ ∈ ([] : List Addr) ∨ h0.size ≤ x_) (Or.inr (own_ale (by omega))) all0)).trans K686 (allS (P := fun x_ => x_ ∈ ([] : List Addr) ∨ h0.size ≤ x_) (Or.inr (own_ale (by omega))) all0)).trans K702 (allS (P := fun x_ => x_ ∈ ([] : List Addr) ∨ h0.size ≤ x_) (Or.inr (own_ale (by omega))) all0))⟩
        · show Gl p.tables e below _ (T702.setTop (mkF m 143 #[sJ i0, sS, sJ i1, sS, sJ i2, sS, sJ i3, sS, sJ i4, sS, sI i5, sJ (i0 >>> ((2 : Int32).toInt64 &&& 63)), sS, sJ (i1 &&& (9223372036854775807 : Int64)), sS, sJ (fPt i3), sS, sI md, .val (.ref b663), .val (.ref b674), sU, sJ dl, sS] [(.long (fPt i3)), (.long (0 : Int64)), (.long (1 : Int64)), (.long dl), (.ref b674)]))
          have zz758 : n0 ≤ T702.heap.size := by omega
          refine gVirtualN Gl.cl (y := (⟨"com/example/evenkeel/evenkeel/share/FlooredSum", "add", "(JJJJ)V"⟩ : MethodName)) (z := (⟨"com/example/evenkeel/evenkeel/share/FlooredSum", "add", "(JJJJ)V"⟩ : MethodName)) (b := b674) (argsL := [(.long dl), (.long (1 : Int64)), (.long (0 : Int64)), (.long (fPt i3))]) (rest := []) (mc := 0) (ms := 0) X702 hx hZ hown (mvT hZ (hw _ (List.mem_of_getElem? (i := 16) rfl))) (mvT hZ (hw _ (List.mem_of_getElem? (i := 17) rfl))) (notFace_of_selects (args := #[]) (mvT hZ (hw _ (List.mem_of_getElem? (i := 19) rfl)))) (mvT hZ (hw _ (List.mem_of_getElem? (i := 19) rfl))) (mvT hZ (hw _ (List.mem_of_getElem? (i := 18) rfl))) (by decide) f702_0 (backOf (W := 0) (addB1 l Z a0 hw [] b674 dl (fPt i3) m0_702 m1_702 m2_702 m3_702 T702.heap n0 zz758 f702_0 (by omega) f702_1 f702_2 f702_3 f702_4 f702_5 f702_6 (fPt_ne _) p702_sg hz (own_mag0 hdm) (own_magne hdm hz) (own_negne (own_magne hdm hz))) hZ (hw _ (List.mem_of_getElem? (i := 20) rfl)) (hw _ (List.mem_of_getElem? (i := 6) rfl)) (by decide) (by decide)) rfl (by rw [hml]; rfl) (lenOf pd_7 rfl) rfl (by show 2 * 0 + _ ≤ _; exact Nat.le_of_eq rfl) (hb hby at_143) rfl (rfl : T702.heap = T702.heap) (by decide) (by decide) ?_
          intro v758 T758 Lc758 hQ758 X758
          obtain ⟨m0_758, m1_758, m2_758, m3_758, rfl, Nq758, K758, f758_0, f758_1, f758_2, f758_3, f758_4, f758_5, f758_6, p758_df⟩ := hQ758
          have z759 : T702.heap.size ≤ T758.heap.size := K758.1
          have N758 := Fr.app N702 Nq758
          have lt760 := own_alt f758_0.lt
          have lt761 := own_alt f758_1.lt
          have lt762 := own_alt f758_2.lt
          have lt763 := own_alt f758_3.lt
          have lt764 := own_alt f758_4.lt
          have lt765 := own_alt f758_5.lt
          have lt766 := own_alt f758_6.lt
          refine Gl.go (fun _ hr => zXS_goto X758.here hx rfl (pc0 := 146) (pc' := 192) rfl (hb hby at_146) (by decide) (by decide) (zXT_lload X758.here hx rfl (hb hby at_192) rfl (zXT_lconst X758.here hx rfl (hb hby at_194) (zXT_lcmp X758.here hx rfl (hb hby at_195) rfl hr)))) ?_
          refine Gl.go (fun _ hr => zXS_ifYes X758.here hx rfl (pc0 := 196) (pc' := 203) rfl (hb hby at_196) rfl (XT.ll_ne_t hz) (by decide) (by decide) (zXS_iconst X758.here hx rfl (hb hby at_203) (zXS_istore X758.here hx rfl (hb hby at_204) rfl (l' := #[sJ i0, sS, sJ i1, sS, sJ i2, sS, sJ i3, sS, sJ i4, sS, sI i5, sJ (i0 >>> ((2 : Int32).toInt64 &&& 63)), sS, sJ (i1 &&& (9223372036854775807 : Int64)), sS, sJ (fPt i3), sS, sI md, .val (.ref b663), .val (.ref b674), sI 0, sJ dl, sS]) rfl (zXS_goto X758.here hx rfl (pc0 := 206) (pc' := 324) rfl (hb hby at_206) (by decide) (by decide) (zXS_aload X758.here hx rfl (hb hby at_324) rfl rfl (zXS_aload X758.here hx rfl (hb hby at_326) rfl rfl hr)))))) ?_
          have Fc768 := ((f686_1.keep K702 (ninS (own_ane (by omega)) nin0)).keep K758 (ninS (own_ane (by omega)) nin0))
          have Fc769 := ((f686_2.keep K702 (ninS (own_ane (by omega)) nin0)).keep K758 (ninS (own_ane (by omega)) nin0))
          have Fc770 := ((f686_3.keep K702 (ninS (own_ane (by omega)) nin0)).keep K758 (ninS (own_ane (by omega)) nin0))
          have Fc771 := ((f686_4.keep K702 (ninS (own_ane (by omega)) nin0)).keep K758 (ninS (own_ane (by omega)) nin0))
          have Fc772 := ((f686_5.keep K702 (ninS (own_ane (by omega)) nin0)).keep K758 (ninS (own_ane (by omega)) nin0))
          have zz767 : n0 ≤ T758.heap.size := by omega
          have Ec773 := ((f686_0.keep K702).keep K758)
          refine gVirtualN Gl.cl (y := (⟨"com/example/evenkeel/evenkeel/share/FlooredSum", "sameAs", "(Lcom/example/evenkeel/evenkeel/share/FlooredSum;)Z"⟩ : MethodName)) (z := (⟨"com/example/evenkeel/evenkeel/share/FlooredSum", "sameAs", "(Lcom/example/evenkeel/evenkeel/share/FlooredSum;)Z"⟩ : MethodName)) (b := b663) (argsL := [(.ref b674)]) (rest := []) (mc := 0) (ms := 0) X758 hx hZ hown (mvT hZ (hw _ (List.mem_of_getElem? (i := 22) rfl))) (mvT hZ (hw _ (List.mem_of_getElem? (i := 23) rfl))) (notFace_of_selects (args := #[]) (mvT hZ (hw _ (List.mem_of_getElem? (i := 25) rfl)))) (mvT hZ (hw _ (List.mem_of_getElem? (i := 25) rfl))) (mvT hZ (hw _ (List.mem_of_getElem? (i := 24) rfl))) (by decide) Ec773 (backOf (W := 0) (sam l Z a0 hw [] b663 b674 (fPt i3) m0_686 m1_686 m2_686 m3_686 (fPt i3) m0_758 m1_758 m2_758 m3_758 T758.heap n0 zz767 Fc768 Fc769 Fc770 Fc771 Fc772 f758_1 f758_2 f758_3 f758_4 f758_5) hZ (hw _ (List.mem_of_getElem? (i := 26) rfl)) (hw _ (List.mem_of_getElem? (i := 6) rfl)) (by decide) (by decide)) rfl (by rw [hml]; rfl) (lenOf pd_8 rfl) rfl (by show 2 * 0 + _ ≤ _; exact Nat.le_of_eq rfl) (hb hby at_328) rfl (rfl : T758.heap = T758.heap) (by decide) (by decide) ?_
          intro v767 T767 Lc767 hQ767 X767
          obtain ⟨rfl, Nq767, e767⟩ := hQ767
          have N767 := Fr.app N758 Nq767
          refine Gl.go (fun _ hr => zXS_iload X767.here hx rfl (hb hby at_331) rfl hr) ?_
          refine Gl.go (fun _ hr => zXS_icmpNo X767.here hx rfl (hb hby at_333) rfl (XT.ii_ne_f (own_df1 p686_eq p702_eq p758_df)) (zXS_aload X767.here hx rfl (hb hby at_336) rfl rfl (zXS_aload X767.here hx rfl (hb hby at_338) rfl rfl hr))) ?_
          have zz774 : n0 ≤ T758.heap.size := by omega
          refine gVirtualN Gl.cl (y := (⟨"com/example/evenkeel/evenkeel/share/FlooredSum", "sameAs", "(Lcom/example/evenkeel/evenkeel/share/FlooredSum;)Z"⟩ : MethodName)) (z := (⟨"com/example/evenkeel/evenkeel/share/FlooredSum", "sameAs", "(Lcom/example/evenkeel/evenkeel/share/FlooredSum;)Z"⟩ : MethodName)) (b := b674) (argsL := [(.ref b663)]) (rest := []) (mc := 0) (ms := 0) X767 hx hZ hown (mvT hZ (hw _ (List.mem_of_getElem? (i := 22) rfl))) (mvT hZ (hw _ (List.mem_of_getElem? (i := 23) rfl))) (notFace_of_selects (args := #[]) (mvT hZ (hw _ (List.mem_of_getElem? (i := 25) rfl)))) (mvT hZ (hw _ (List.mem_of_getElem? (i := 25) rfl))) (mvT hZ (hw _ (List.mem_of_getElem? (i := 24) rfl))) (by decide) f758_0 (backOf (W := 0) (sam l Z a0 hw [] b674 b663 (fPt i3) m0_758 m1_758 m2_758 m3_758 (fPt i3) m0_686 m1_686 m2_686 m3_686 T758.heap n0 zz774 f758_1 f758_2 f758_3 f758_4 f758_5 Fc768 Fc769 Fc770 Fc771 Fc772) hZ (hw _ (List.mem_of_getElem? (i := 26) rfl)) (hw _ (List.mem_of_getElem? (i := 6) rfl)) (by decide) (by decide)) rfl (by rw [hml]; rfl) (lenOf pd_8 rfl) rfl (by show 2 * 0 + _ ≤ _; exact Nat.le_of_eq rfl) (hb hby at_340) rfl e767 (by decide) (by decide) ?_
          intro v774 T774 Lc774 hQ774 X774
          obtain ⟨rfl, Nq774, e774⟩ := hQ774
          have N774 := Fr.app N767 Nq774
          refine Gl.go (fun _ hr => zXS_iload X774.here hx rfl (hb hby at_343) rfl hr) ?_
          refine Gl.go (fun _ hr => zXS_icmpNo X774.here hx rfl (hb hby at_345) rfl (XT.ii_ne_f (own_sym (own_df1 p686_eq p702_eq p758_df))) (zXS_aload X774.here hx rfl (hb hby at_348) rfl rfl (zXS_aload X774.here hx rfl (hb hby at_350) rfl rfl hr))) ?_
          have zz775 : n0 ≤ T758.heap.size := by omega
          refine gVirtualN Gl.cl (y := (⟨"com/example/evenkeel/evenkeel/share/FlooredSum", "sameAs", "(Lcom/example/evenkeel/evenkeel/share/FlooredSum;)Z"⟩ : MethodName)) (z := (⟨"com/example/evenkeel/evenkeel/share/FlooredSum", "sameAs", "(Lcom/example/evenkeel/evenkeel/share/FlooredSum;)Z"⟩ : MethodName)) (b := b663) (argsL := [(.ref b663)]) (rest := []) (mc := 0) (ms := 0) X774 hx hZ hown (mvT hZ (hw _ (List.mem_of_getElem? (i := 22) rfl))) (mvT hZ (hw _ (List.mem_of_getElem? (i := 23) rfl))) (notFace_of_selects (args := #[]) (mvT hZ (hw _ (List.mem_of_getElem? (i := 25) rfl)))) (mvT hZ (hw _ (List.mem_of_getElem? (i := 25) rfl))) (mvT hZ (hw _ (List.mem_of_getElem? (i := 24) rfl))) (by decide) Ec773 (backOf (W := 0) (sam l Z a0 hw [] b663 b663 (fPt i3) m0_686 m1_686 m2_686 m3_686 (fPt i3) m0_686 m1_686 m2_686 m3_686 T758.heap n0 zz775 Fc768 Fc769 Fc770 Fc771 Fc772 Fc768 Fc769 Fc770 Fc771 Fc772) hZ (hw _ (List.mem_of_getElem? (i := 26) rfl)) (hw _ (List.mem_of_getElem? (i := 6) rfl)) (by decide) (by decide)) rfl (by rw [hml]; rfl) (lenOf pd_8 rfl) rfl (by show 2 * 0 + _ ≤ _; exact Nat.le_of_eq rfl) (hb hby at_352) rfl e774 (by decide) (by decide) ?_
          intro v775 T775 Lc775 hQ775 X775
          obtain ⟨rfl, Nq775, e775⟩ := hQ775
          have N775 := Fr.app N774 Nq775
          refine Gl.go (fun _ hr => zXS_ifNo X775.here hx rfl (hb hby at_355) rfl (XT.i0_eq_f (by rw [own_same_refl]; decide)) (zXS_iconst X775.here hx rfl (hb hby at_358) (zXS_goto X775.here hx rfl (pc0 := 359) (pc' := 363) rfl (hb hby at_359) (by decide) (by decide) hr))) ?_
          obtain ⟨fs, hr, hrun, hended, hW, hsame⟩ := X775.leave (v := some (.int (1 : Int32))) (fun h => by rw [Bd.returns] at h; cases h)
          refine ⟨_, _, retN X775 hx (t := .boolean) Bd.returns (by simp) (hb hby at_363) hr, hrun, hended, _, _, rfl, ?_, ⟨⟨_, rfl⟩, hW, hsame.mono (by decide) (by decide)⟩⟩
          show Qlawrm Z i0 i1 i2 i3 i4 i5 h0 n0 _ T775.heap _
          rw [e775]
          exact ⟨rfl, N775, ((((((((Keep.refl h0 []).ext E663).trans K665 (allS (P := fun x_ => x_ ∈ ([] : List Addr) ∨ h0.size ≤ x_) (Or.inr (own_ale (by omega))) all0)).ext E674).trans K676 (allS (P := fun x_ => x_ ∈ ([] : List Addr) ∨ h0.size ≤ x_) (Or.inr (own_ale (by omega))) all0)).trans K686 (allS (P := fun x_ => x_ ∈ ([] : List Addr) ∨ h0.size ≤ x_) (Or.inr (own_ale (by omega))) all0)).trans K702 (allS (P := fun x_ => x_ ∈ ([] : List Addr) ∨ h0.size ≤ x_) (Or.inr (own_ale (by omega))) all0)).trans K758 (allS (P := fun x_ => x_ ∈ ([] : List Addr) ∨ h0.size ≤ x_) (Or.inr (own_ale (by omega))) all0))⟩
      · refine Gl.go (fun _ hr => zXS_icmpYes X702.here hx rfl (pc0 := 132) (pc' := 149) rfl (hb hby at_132) rfl (XT.ii_ne_t hc747) (by decide) (by decide) (zXS_iload X702.here hx rfl (hb hby at_149) rfl (zXS_iconst X702.here hx rfl (hb hby at_151) hr))) ?_
        by_cases hc776 : md = (2 : Int32)
        · refine Gl.go (fun _ hr => zXS_icmpNo X702.here hx rfl (hb hby at_152) rfl (XT.ii_ne_f hc776) (zXS_aload X702.here hx rfl (hb hby at_155) rfl rfl (zXT_lload X702.here hx rfl (hb hby at_157) rfl (zXT_lconst X702.here hx rfl (hb hby at_159) (zXT_lconst X702.here hx rfl (hb hby at_160) (zXT_lload X702.here hx rfl (hb hby at_161) rfl hr)))))) ?_
          refine Gl.go (X702.ldc2Long hx hown (mvT hZ (hw _ (List.mem_of_getElem? (i := 21) rfl))) rfl (hb hby at_163)) ?_
          refine Gl.go (fun _ hr => zXT_ladd X702.here hx rfl (hb hby at_166) rfl hr) ?_
          by_cases hz : dl = (0 : Int64)
          · show Gl p.tables e below _ (T702.setTop (mkF m 167 #[sJ i0, sS, sJ i1, sS, sJ i2, sS, sJ i3, sS, sJ i4, sS, sI i5, sJ (i0 >>> ((2 : Int32).toInt64 &&& 63)), sS, sJ (i1 &&& (9223372036854775807 : Int64)), sS, sJ (fPt i3), sS, sI md, .val (.ref b663), .val (.ref b674), sU, sJ dl, sS] [(.long ((fPt i3) + (64 : Int64))), (.long (0 : Int64)), (.long (1 : Int64)), (.long dl), (.ref b674)]))
            have zz777 : n0 ≤ T702.heap.size := by omega
            refine gVirtualN Gl.cl (y := (⟨"com/example/evenkeel/evenkeel/share/FlooredSum", "add", "(JJJJ)V"⟩ : MethodName)) (z := (⟨"com/example/evenkeel/evenkeel/share/FlooredSum", "add", "(JJJJ)V"⟩ : MethodName)) (b := b674) (argsL := [(.long dl), (.long (1 : Int64)), (.long (0 : Int64)), (.long ((fPt i3) + (64 : Int64)))]) (rest := []) (mc := 0) (ms := 0) X702 hx hZ hown (mvT hZ (hw _ (List.mem_of_getElem? (i := 16) rfl))) (mvT hZ (hw _ (List.mem_of_getElem? (i := 17) rfl))) (notFace_of_selects (args := #[]) (mvT hZ (hw _ (List.mem_of_getElem? (i := 19) rfl)))) (mvT hZ (hw _ (List.mem_of_getElem? (i := 19) rfl))) (mvT hZ (hw _ (List.mem_of_getElem? (i := 18) rfl))) (by decide) f702_0 (backOf (W := 0) (addZ l Z a0 hw [] b674 dl (1 : Int64) (0 : Int64) ((fPt i3) + (64 : Int64)) (fPt i3) m0_702 m1_702 m2_702 m3_702 T702.heap n0 zz777 f702_0 (by omega) f702_1 f702_2 f702_3 f702_4 f702_5 f702_6 (fPt_ne _) (own_ptk (by decide) (by decide)) hz) hZ (hw _ (List.mem_of_getElem? (i := 20) rfl)) (hw _ (List.mem_of_getElem? (i := 6) rfl)) (by decide) (by decide)) rfl (by rw [hml]; rfl) (lenOf pd_7 rfl) rfl (by show 2 * 0 + _ ≤ _; exact Nat.le_of_eq rfl) (hb hby at_167) rfl (rfl : T702.heap = T702.heap) (by decide) (by decide) ?_
            intro v777 T777 Lc777 hQ777 X777
            obtain ⟨rfl, Nq777, e777⟩ := hQ777
            have N777 := Fr.app N702 Nq777
            refine Gl.go (fun _ hr => zXS_goto X777.here hx rfl (pc0 := 170) (pc' := 192) rfl (hb hby at_170) (by decide) (by decide) (zXT_lload X777.here hx rfl (hb hby at_192) rfl (zXT_lconst X777.here hx rfl (hb hby at_194) (zXT_lcmp X777.here hx rfl (hb hby at_195) rfl hr)))) ?_
            refine Gl.go (fun _ hr => zXS_ifNo X777.here hx rfl (hb hby at_196) rfl (XT.ll_ne_f hz) (zXS_iconst X777.here hx rfl (hb hby at_199) (zXS_goto X777.here hx rfl (pc0 := 200) (pc' := 204) rfl (hb hby at_200) (by decide) (by decide) (zXS_istore X777.here hx rfl (hb hby at_204) rfl (l' := #[sJ i0, sS, sJ i1, sS, sJ i2, sS, sJ i3, sS, sJ i4, sS, sI i5, sJ (i0 >>> ((2 : Int32).toInt64 &&& 63)), sS, sJ (i1 &&& (9223372036854775807 : Int64)), sS, sJ (fPt i3), sS, sI md, .val (.ref b663), .val (.ref b674), sI 1, sJ dl, sS]) rfl (zXS_goto X777.here hx rfl (pc0 := 206) (pc' := 324) rfl (hb hby at_206) (by decide) (by decide) (zXS_aload X777.here hx rfl (hb hby at_324) rfl rfl (zXS_aload X777.here hx rfl (hb hby at_326) rfl rfl hr))))))) ?_
            have Fc779 := (f686_1.keep K702 (ninS (own_ane (by omega)) nin0))
            have Fc780 := (f686_2.keep K702 (ninS (own_ane (by omega)) nin0))
            have Fc781 := (f686_3.keep K702 (ninS (own_ane (by omega)) nin0))
            have Fc782 := (f686_4.keep K702 (ninS (own_ane (by omega)) nin0))
            have Fc783 := (f686_5.keep K702 (ninS (own_ane (by omega)) nin0))
            have zz778 : n0 ≤ T702.heap.size := by omega
            have Ec784 := (f686_0.keep K702)
            refine gVirtualN Gl.cl (y := (⟨"com/example/evenkeel/evenkeel/share/FlooredSum", "sameAs", "(Lcom/example/evenkeel/evenkeel/share/FlooredSum;)Z"⟩ : MethodName)) (z := (⟨"com/example/evenkeel/evenkeel/share/FlooredSum", "sameAs", "(Lcom/example/evenkeel/evenkeel/share/FlooredSum;)Z"⟩ : MethodName)) (b := b663) (argsL := [(.ref b674)]) (rest := []) (mc := 0) (ms := 0) X777 hx hZ hown (mvT hZ (hw _ (List.mem_of_getElem? (i := 22) rfl))) (mvT hZ (hw _ (List.mem_of_getElem? (i := 23) rfl))) (notFace_of_selects (args := #[]) (mvT hZ (hw _ (List.mem_of_getElem? (i := 25) rfl)))) (mvT hZ (hw _ (List.mem_of_getElem? (i := 25) rfl))) (mvT hZ (hw _ (List.mem_of_getElem? (i := 24) rfl))) (by decide) Ec784 (backOf (W := 0) (sam l Z a0 hw [] b663 b674 (fPt i3) m0_686 m1_686 m2_686 m3_686 (fPt i3) m0_702 m1_702 m2_702 m3_702 T702.heap n0 zz778 Fc779 Fc780 Fc781 Fc782 Fc783 f702_1 f702_2 f702_3 f702_4 f702_5) hZ (hw _ (List.mem_of_getElem? (i := 26) rfl)) (hw _ (List.mem_of_getElem? (i := 6) rfl)) (by decide) (by decide)) rfl (by rw [hml]; rfl) (lenOf pd_8 rfl) rfl (by show 2 * 0 + _ ≤ _; exact Nat.le_of_eq rfl) (hb hby at_328) rfl e777 (by decide) (by decide) ?_
            intro v778 T778 Lc778 hQ778 X778
            obtain ⟨rfl, Nq778, e778⟩ := hQ778
            have N778 := Fr.app N777 Nq778
            refine Gl.go (fun _ hr => zXS_iload X778.here hx rfl (hb hby at_331) rfl hr) ?_
            refine Gl.go (fun _ hr => zXS_icmpNo X778.here hx rfl (hb hby at_333) rfl (XT.ii_ne_f (own_same_eq rfl p686_eq p702_eq)) (zXS_aload X778.here hx rfl (hb hby at_336) rfl rfl (zXS_aload X778.here hx rfl (hb hby at_338) rfl rfl hr))) ?_
            have zz785 : n0 ≤ T702.heap.size := by omega
            refine gVirtualN Gl.cl (y := (⟨"com/example/evenkeel/evenkeel/share/FlooredSum", "sameAs", "(Lcom/example/evenkeel/evenkeel/share/FlooredSum;)Z"⟩ : MethodName)) (z := (⟨"com/example/evenkeel/evenkeel/share/FlooredSum", "sameAs", "(Lcom/example/evenkeel/evenkeel/share/FlooredSum;)Z"⟩ : MethodName)) (b := b674) (argsL := [(.ref b663)]) (rest := []) (mc := 0) (ms := 0) X778 hx hZ hown (mvT hZ (hw _ (List.mem_of_getElem? (i := 22) rfl))) (mvT hZ (hw _ (List.mem_of_getElem? (i := 23) rfl))) (notFace_of_selects (args := #[]) (mvT hZ (hw _ (List.mem_of_getElem? (i := 25) rfl)))) (mvT hZ (hw _ (List.mem_of_getElem? (i := 25) rfl))) (mvT hZ (hw _ (List.mem_of_getElem? (i := 24) rfl))) (by decide) f702_0 (backOf (W := 0) (sam l Z a0 hw [] b674 b663 (fPt i3) m0_702 m1_702 m2_702 m3_702 (fPt i3) m0_686 m1_686 m2_686 m3_686 T702.heap n0 zz785 f702_1 f702_2 f702_3 f702_4 f702_5 Fc779 Fc780 Fc781 Fc782 Fc783) hZ (hw _ (List.mem_of_getElem? (i := 26) rfl)) (hw _ (List.mem_of_getElem? (i := 6) rfl)) (by decide) (by decide)) rfl (by rw [hml]; rfl) (lenOf pd_8 rfl) rfl (by show 2 * 0 + _ ≤ _; exact Nat.le_of_eq rfl) (hb hby at_340) rfl e778 (by decide) (by decide) ?_
            intro v785 T785 Lc785 hQ785 X785
            obtain ⟨rfl, Nq785, e785⟩ := hQ785
            have N785 := Fr.app N778 Nq785
            refine Gl.go (fun _ hr => zXS_iload X785.here hx rfl (hb hby at_343) rfl hr) ?_
            refine Gl.go (fun _ hr => zXS_icmpNo X785.here hx rfl (hb hby at_345) rfl (XT.ii_ne_f (own_sym (own_same_eq rfl p686_eq p702_eq))) (zXS_aload X785.here hx rfl (hb hby at_348) rfl rfl (zXS_aload X785.here hx rfl (hb hby at_350) rfl rfl hr))) ?_
            have zz786 : n0 ≤ T702.heap.size := by omega
            refine gVirtualN Gl.cl (y := (⟨"com/example/evenkeel/evenkeel/share/FlooredSum", "sameAs", "(Lcom/example/evenkeel/evenkeel/share/FlooredSum;)Z"⟩ : MethodName)) (z := (⟨"com/example/evenkeel/evenkeel/share/FlooredSum", "sameAs", "(Lcom/example/evenkeel/evenkeel/share/FlooredSum;)Z"⟩ : MethodName)) (b := b663) (argsL := [(.ref b663)]) (rest := []) (mc := 0) (ms := 0) X785 hx hZ hown (mvT hZ (hw _ (List.mem_of_getElem? (i := 22) rfl))) (mvT hZ (hw _ (List.mem_of_getElem? (i := 23) rfl))) (notFace_of_selects (args := #[]) (mvT hZ (hw _ (List.mem_of_getElem? (i := 25) rfl)))) (mvT hZ (hw _ (List.mem_of_getElem? (i := 25) rfl))) (mvT hZ (hw _ (List.mem_of_getElem? (i := 24) rfl))) (by decide) Ec784 (backOf (W := 0) (sam l Z a0 hw [] b663 b663 (fPt i3) m0_686 m1_686 m2_686 m3_686 (fPt i3) m0_686 m1_686 m2_686 m3_686 T702.heap n0 zz786 Fc779 Fc780 Fc781 Fc782 Fc783 Fc779 Fc780 Fc781 Fc782 Fc783) hZ (hw _ (List.mem_of_getElem? (i := 26) rfl)) (hw _ (List.mem_of_getElem? (i := 6) rfl)) (by decide) (by decide)) rfl (by rw [hml]; rfl) (lenOf pd_8 rfl) rfl (by show 2 * 0 + _ ≤ _; exact Nat.le_of_eq rfl) (hb hby at_352) rfl e785 (by decide) (by decide) ?_
            intro v786 T786 Lc786 hQ786 X786
            obtain ⟨rfl, Nq786, e786⟩ := hQ786
            have N786 := Fr.app N785 Nq786
            refine Gl.go (fun _ hr => zXS_ifNo X786.here hx rfl (hb hby at_355) rfl (XT.i0_eq_f (by rw [own_same_refl]; decide)) (zXS_iconst X786.here hx rfl (hb hby at_358) (zXS_goto X786.here hx rfl (pc0 := 359) (pc' := 363) rfl (hb hby at_359) (by decide) (by decide) hr))) ?_
            obtain ⟨fs, hr, hrun, hended, hW, hsame⟩ := X786.leave (v := some (.int (1 : Int32))) (fun h => by rw [Bd.returns] at h; cases h)
            refine ⟨_, _, retN X786 hx (t := .boolean) Bd.returns (by simp) (hb hby at_363) hr, hrun, hended, _, _, rfl, ?_, ⟨⟨_, rfl⟩, hW, hsame.mono (by decide) (by decide)⟩⟩
            show Qlawrm Z i0 i1 i2 i3 i4 i5 h0 n0 _ T786.heap _
            rw [e786]
            exact ⟨rfl, N786, (((((((Keep.refl h0 []).ext E663).trans K665 (allS (P := fun x_ => x_ ∈ ([] : List Addr) ∨ h0.size ≤ x_) (Or.inr (own_ale (by omega))) all0)).ext E674).trans K676 (allS (P := fun x_ => x_ ∈ ([] : List Addr) ∨ h0.size ≤ x_) (Or.inr (own_ale (by omega))) all0)).trans K686 (allS (P := fun x_ => x_ ∈ ([] : List Addr) ∨ h0.size ≤ x_) (Or.inr (own_ale (by omega))) all0)).trans K702 (allS (P := fun x_ => x_ ∈ ([] : List Addr) ∨ h0.size ≤ x_) (Or.inr (own_ale (by omega))) all0))⟩
          · show Gl p.tables e below _ (T702.setTop (mkF m 167 #[sJ i0, sS, sJ i1, sS, sJ i2, sS, sJ i3, sS, sJ i4, sS, sI i5, sJ (i0 >>> ((2 : Int32).toInt64 &&& 63)), sS, sJ (i1 &&& (9223372036854775807 : Int64)), sS, sJ (fPt i3), sS, sI md, .val (.ref b663), .val (.ref b674), sU, sJ dl, sS] [(.long ((fPt i3) + (64 : Int64))), (.long (0 : Int64)), (.long (1 : Int64)), (.long dl), (.ref b674)]))
            have zz787 : n0 ≤ T702.heap.size := by omega
            refine gVirtualN Gl.cl (y := (⟨"com/example/evenkeel/evenkeel/share/FlooredSum", "add", "(JJJJ)V"⟩ : MethodName)) (z := (⟨"com/example/evenkeel/evenkeel/share/FlooredSum", "add", "(JJJJ)V"⟩ : MethodName)) (b := b674) (argsL := [(.long dl), (.long (1 : Int64)), (.long (0 : Int64)), (.long ((fPt i3) + (64 : Int64)))]) (rest := []) (mc := 0) (ms := 0) X702 hx hZ hown (mvT hZ (hw _ (List.mem_of_getElem? (i := 16) rfl))) (mvT hZ (hw _ (List.mem_of_getElem? (i := 17) rfl))) (notFace_of_selects (args := #[]) (mvT hZ (hw _ (List.mem_of_getElem? (i := 19) rfl)))) (mvT hZ (hw _ (List.mem_of_getElem? (i := 19) rfl))) (mvT hZ (hw _ (List.mem_of_getElem? (i := 18) rfl))) (by decide) f702_0 (backOf (W := 0) (addB2 l Z a0 hw [] b674 dl (fPt i3) m0_702 m1_702 m2_702 m3_702 T702.heap n0 zz787 f702_0 (by omega) f702_1 f702_2 f702_3 f702_4 f702_5 f702_6 (fPt_ne _) p702_sg hz (own_mag0 hdm) (own_magne hdm hz) (own_negne (own_magne hdm hz)) (own_ptk (by decide) (by decide))) hZ (hw _ (List.mem_of_getElem? (i := 20) rfl)) (hw _ (List.mem_of_getElem? (i := 6) rfl)) (by decide) (by decide)) rfl (by rw [hml]; rfl) (lenOf pd_7 rfl) rfl (by show 2 * 0 + _ ≤ _; exact Nat.le_of_eq rfl) (hb hby at_167) rfl (rfl : T702.heap = T702.heap) (by decide) (by decide) ?_
            intro v787 T787 Lc787 hQ787 X787
            obtain ⟨m0_787, m1_787, m2_787, m3_787, rfl, Nq787, K787, f787_0, f787_1, f787_2, f787_3, f787_4, f787_5, f787_6, p787_df⟩ := hQ787
            have z788 : T702.heap.size ≤ T787.heap.size := K787.1
            have N787 := Fr.app N702 Nq787
            have lt789 := own_alt f787_0.lt
            have lt790 := own_alt f787_1.lt
            have lt791 := own_alt f787_2.lt
            have lt792 := own_alt f787_3.lt
            have lt793 := own_alt f787_4.lt
            have lt794 := own_alt f787_5.lt
            have lt795 := own_alt f787_6.lt
            refine Gl.go (fun _ hr => zXS_goto X787.here hx rfl (pc0 := 170) (pc' := 192) rfl (hb hby at_170) (by decide) (by decide) (zXT_lload X787.here hx rfl (hb hby at_192) rfl (zXT_lconst X787.here hx rfl (hb hby at_194) (zXT_lcmp X787.here hx rfl (hb hby at_195) rfl hr)))) ?_
            refine Gl.go (fun _ hr => zXS_ifYes X787.here hx rfl (pc0 := 196) (pc' := 203) rfl (hb hby at_196) rfl (XT.ll_ne_t hz) (by decide) (by decide) (zXS_iconst X787.here hx rfl (hb hby at_203) (zXS_istore X787.here hx rfl (hb hby at_204) rfl (l' := #[sJ i0, sS, sJ i1, sS, sJ i2, sS, sJ i3, sS, sJ i4, sS, sI i5, sJ (i0 >>> ((2 : Int32).toInt64 &&& 63)), sS, sJ (i1 &&& (9223372036854775807 : Int64)), sS, sJ (fPt i3), sS, sI md, .val (.ref b663), .val (.ref b674), sI 0, sJ dl, sS]) rfl (zXS_goto X787.here hx rfl (pc0 := 206) (pc' := 324) rfl (hb hby at_206) (by decide) (by decide) (zXS_aload X787.here hx rfl (hb hby at_324) rfl rfl (zXS_aload X787.here hx rfl (hb hby at_326) rfl rfl hr)))))) ?_
            have Fc797 := ((f686_1.keep K702 (ninS (own_ane (by omega)) nin0)).keep K787 (ninS (own_ane (by omega)) nin0))
            have Fc798 := ((f686_2.keep K702 (ninS (own_ane (by omega)) nin0)).keep K787 (ninS (own_ane (by omega)) nin0))
            have Fc799 := ((f686_3.keep K702 (ninS (own_ane (by omega)) nin0)).keep K787 (ninS (own_ane (by omega)) nin0))
            have Fc800 := ((f686_4.keep K702 (ninS (own_ane (by omega)) nin0)).keep K787 (ninS (own_ane (by omega)) nin0))
            have Fc801 := ((f686_5.keep K702 (ninS (own_ane (by omega)) nin0)).keep K787 (ninS (own_ane (by omega)) nin0))
            have zz796 : n0 ≤ T787.heap.size := by omega
            have Ec802 := ((f686_0.keep K702).keep K787)
            refine gVirtualN Gl.cl (y := (⟨"com/example/evenkeel/evenkeel/share/FlooredSum", "sameAs", "(Lcom/example/evenkeel/evenkeel/share/FlooredSum;)Z"⟩ : MethodName)) (z := (⟨"com/example/evenkeel/evenkeel/share/FlooredSum", "sameAs", "(Lcom/example/evenkeel/evenkeel/share/FlooredSum;)Z"⟩ : MethodName)) (b := b663) (argsL := [(.ref b674)]) (rest := []) (mc := 0) (ms := 0) X787 hx hZ hown (mvT hZ (hw _ (List.mem_of_getElem? (i := 22) rfl))) (mvT hZ (hw _ (List.mem_of_getElem? (i := 23) rfl))) (notFace_of_selects (args := #[]) (mvT hZ (hw _ (List.mem_of_getElem? (i := 25) rfl)))) (mvT hZ (hw _ (List.mem_of_getElem? (i := 25) rfl))) (mvT hZ (hw _ (List.mem_of_getElem? (i := 24) rfl))) (by decide) Ec802 (backOf (W := 0) (sam l Z a0 hw [] b663 b674 (fPt i3) m0_686 m1_686 m2_686 m3_686 (fPt i3) m0_787 m1_787 m2_787 m3_787 T787.heap n0 zz796 Fc797 Fc798 Fc799 Fc800 Fc801 f787_1 f787_2 f787_3 f787_4 f787_5) hZ (hw _ (List.mem_of_getElem? (i := 26) rfl)) (hw _ (List.mem_of_getElem? (i := 6) rfl)) (by decide) (by decide)) rfl (by rw [hml]; rfl) (lenOf pd_8 rfl) rfl (by show 2 * 0 + _ ≤ _; exact Nat.le_of_eq rfl) (hb hby at_328) rfl (rfl : T787.heap = T787.heap) (by decide) (by decide) ?_
            intro v796 T796 Lc796 hQ796 X796
            obtain ⟨rfl, Nq796, e796⟩ := hQ796
            have N796 := Fr.app N787 Nq796
            refine Gl.go (fun _ hr => zXS_iload X796.here hx rfl (hb hby at_331) rfl hr) ?_
            refine Gl.go (fun _ hr => zXS_icmpNo X796.here hx rfl (hb hby at_333) rfl (XT.ii_ne_f (own_df2 p686_eq p702_eq p787_df)) (zXS_aload X796.here hx rfl (hb hby at_336) rfl rfl (zXS_aload X796.here hx rfl (hb hby at_338) rfl rfl hr))) ?_
            have zz803 : n0 ≤ T787.heap.size := by omega
            refine gVirtualN Gl.cl (y := (⟨"com/example/evenkeel/evenkeel/share/FlooredSum", "sameAs", "(Lcom/example/evenkeel/evenkeel/share/FlooredSum;)Z"⟩ : MethodName)) (z := (⟨"com/example/evenkeel/evenkeel/share/FlooredSum", "sameAs", "(Lcom/example/evenkeel/evenkeel/share/FlooredSum;)Z"⟩ : MethodName)) (b := b674) (argsL := [(.ref b663)]) (rest := []) (mc := 0) (ms := 0) X796 hx hZ hown (mvT hZ (hw _ (List.mem_of_getElem? (i := 22) rfl))) (mvT hZ (hw _ (List.mem_of_getElem? (i := 23) rfl))) (notFace_of_selects (args := #[]) (mvT hZ (hw _ (List.mem_of_getElem? (i := 25) rfl)))) (mvT hZ (hw _ (List.mem_of_getElem? (i := 25) rfl))) (mvT hZ (hw _ (List.mem_of_getElem? (i := 24) rfl))) (by decide) f787_0 (backOf (W := 0) (sam l Z a0 hw [] b674 b663 (fPt i3) m0_787 m1_787 m2_787 m3_787 (fPt i3) m0_686 m1_686 m2_686 m3_686 T787.heap n0 zz803 f787_1 f787_2 f787_3 f787_4 f787_5 Fc797 Fc798 Fc799 Fc800 Fc801) hZ (hw _ (List.mem_of_getElem? (i := 26) rfl)) (hw _ (List.mem_of_getElem? (i := 6) rfl)) (by decide) (by decide)) rfl (by rw [hml]; rfl) (lenOf pd_8 rfl) rfl (by show 2 * 0 + _ ≤ _; exact Nat.le_of_eq rfl) (hb hby at_340) rfl e796 (by decide) (by decide) ?_
            intro v803 T803 Lc803 hQ803 X803
            obtain ⟨rfl, Nq803, e803⟩ := hQ803
            have N803 := Fr.app N796 Nq803
            refine Gl.go (fun _ hr => zXS_iload X803.here hx rfl (hb hby at_343) rfl hr) ?_
            refine Gl.go (fun _ hr => zXS_icmpNo X803.here hx rfl (hb hby at_345) rfl (XT.ii_ne_f (own_sym (own_df2 p686_eq p702_eq p787_df))) (zXS_aload X803.here hx rfl (hb hby at_348) rfl rfl (zXS_aload X803.here hx rfl (hb hby at_350) rfl rfl hr))) ?_
            have zz804 : n0 ≤ T787.heap.size := by omega
            refine gVirtualN Gl.cl (y := (⟨"com/example/evenkeel/evenkeel/share/FlooredSum", "sameAs", "(Lcom/example/evenkeel/evenkeel/share/FlooredSum;)Z"⟩ : MethodName)) (z := (⟨"com/example/evenkeel/evenkeel/share/FlooredSum", "sameAs", "(Lcom/example/evenkeel/evenkeel/share/FlooredSum;)Z"⟩ : MethodName)) (b := b663) (argsL := [(.ref b663)]) (rest := []) (mc := 0) (ms := 0) X803 hx hZ hown (mvT hZ (hw _ (List.mem_of_getElem? (i := 22) rfl))) (mvT hZ (hw _ (List.mem_of_getElem? (i := 23) rfl))) (notFace_of_selects (args := #[]) (mvT hZ (hw _ (List.mem_of_getElem? (i := 25) rfl)))) (mvT hZ (hw _ (List.mem_of_getElem? (i := 25) rfl))) (mvT hZ (hw _ (List.mem_of_getElem? (i := 24) rfl))) (by decide) Ec802 (backOf (W := 0) (sam l Z a0 hw [] b663 b663 (fPt i3) m0_686 m1_686 m2_686 m3_686 (fPt i3) m0_686 m1_686 m2_686 m3_686 T787.heap n0 zz804 Fc797 Fc798 Fc799 Fc800 Fc801 Fc797 Fc798 Fc799 Fc800 Fc801) hZ (hw _ (List.mem_of_getElem? (i := 26) rfl)) (hw _ (List.mem_of_getElem? (i := 6) rfl)) (by decide) (by decide)) rfl (by rw [hml]; rfl) (lenOf pd_8 rfl) rfl (by show 2 * 0 + _ ≤ _; exact Nat.le_of_eq rfl) (hb hby at_352) rfl e803 (by decide) (by decide) ?_
            intro v804 T804 Lc804 hQ804 X804
            obtain ⟨rfl, Nq804, e804⟩ := hQ804
            have N804 := Fr.app N803 Nq804
            refine Gl.go (fun _ hr => zXS_ifNo X804.here hx rfl (hb hby at_355) rfl (XT.i0_eq_f (by rw [own_same_refl]; decide)) (zXS_iconst X804.here hx rfl (hb hby at_358) (zXS_goto X804.here hx rfl (pc0 := 359) (pc' := 363) rfl (hb hby at_359) (by decide) (by decide) hr))) ?_
            obtain ⟨fs, hr, hrun, hended, hW, hsame⟩ := X804.leave (v := some (.int (1 : Int32))) (fun h => by rw [Bd.returns] at h; cases h)
            refine ⟨_, _, retN X804 hx (t := .boolean) Bd.returns (by simp) (hb hby at_363) hr, hrun, hended, _, _, rfl, ?_, ⟨⟨_, rfl⟩, hW, hsame.mono (by decide) (by decide)⟩⟩
            show Qlawrm Z i0 i1 i2 i3 i4 i5 h0 n0 _ T804.heap _
            rw [e804]
            exact ⟨rfl, N804, ((((((((Keep.refl h0 []).ext E663).trans K665 (allS (P := fun x_ => x_ ∈ ([] : List Addr) ∨ h0.size ≤ x_) (Or.inr (own_ale (by omega))) all0)).ext E674).trans K676 (allS (P := fun x_ => x_ ∈ ([] : List Addr) ∨ h0.size ≤ x_) (Or.inr (own_ale (by omega))) all0)).trans K686 (allS (P := fun x_ => x_ ∈ ([] : List Addr) ∨ h0.size ≤ x_) (Or.inr (own_ale (by omega))) all0)).trans K702 (allS (P := fun x_ => x_ ∈ ([] : List Addr) ∨ h0.size ≤ x_) (Or.inr (own_ale (by omega))) all0)).trans K787 (allS (P := fun x_ => x_ ∈ ([] : List Addr) ∨ h0.size ≤ x_) (Or.inr (own_ale (by omega))) all0))⟩
        · refine Gl.go (fun _ hr => zXS_icmpYes X702.here hx rfl (pc0 := 152) (pc' := 173) rfl (hb hby at_152) rfl (XT.ii_ne_t hc776) (by decide) (by decide) (zXS_aload X702.here hx rfl (hb hby at_173) rfl rfl hr)) ?_
          refine Gl.go (X702.ldc2Long hx hown (mvT hZ (hw _ (List.mem_of_getElem? (i := 69) rfl))) rfl (hb hby at_175)) ?_
          refine Gl.go (fun _ hr => zXT_lload X702.here hx rfl (hb hby at_178) rfl (zXT_lmul X702.here hx rfl (hb hby at_180) rfl (zXT_lconst X702.here hx rfl (hb hby at_181) (zXT_lconst X702.here hx rfl (hb hby at_182) (zXT_lload X702.here hx rfl (hb hby at_183) rfl hr))))) ?_
          refine Gl.go (X702.ldc2Long hx hown (mvT hZ (hw _ (List.mem_of_getElem? (i := 70) rfl))) rfl (hb hby at_185)) ?_
          refine Gl.go (fun _ hr => zXT_ladd X702.here hx rfl (hb hby at_188) rfl hr) ?_
          by_cases hz : dl = (0 : Int64)
          · show Gl p.tables e below _ (T702.setTop (mkF m 189 #[sJ i0, sS, sJ i1, sS, sJ i2, sS, sJ i3, sS, sJ i4, sS, sI i5, sJ (i0 >>> ((2 : Int32).toInt64 &&& 63)), sS, sJ (i1 &&& (9223372036854775807 : Int64)), sS, sJ (fPt i3), sS, sI md, .val (.ref b663), .val (.ref b674), sU, sJ dl, sS] [(.long ((fPt i3) + (127 : Int64))), (.long (0 : Int64)), (.long (1 : Int64)), (.long ((2 : Int64) * dl)), (.ref b674)]))
            have zz805 : n0 ≤ T702.heap.size := by omega
            refine gVirtualN Gl.cl (y := (⟨"com/example/evenkeel/evenkeel/share/FlooredSum", "add", "(JJJJ)V"⟩ : MethodName)) (z := (⟨"com/example/evenkeel/evenkeel/share/FlooredSum", "add", "(JJJJ)V"⟩ : MethodName)) (b := b674) (argsL := [(.long ((2 : Int64) * dl)), (.long (1 : Int64)), (.long (0 : Int64)), (.long ((fPt i3) + (127 : Int64)))]) (rest := []) (mc := 0) (ms := 0) X702 hx hZ hown (mvT hZ (hw _ (List.mem_of_getElem? (i := 16) rfl))) (mvT hZ (hw _ (List.mem_of_getElem? (i := 17) rfl))) (notFace_of_selects (args := #[]) (mvT hZ (hw _ (List.mem_of_getElem? (i := 19) rfl)))) (mvT hZ (hw _ (List.mem_of_getElem? (i := 19) rfl))) (mvT hZ (hw _ (List.mem_of_getElem? (i := 18) rfl))) (by decide) f702_0 (backOf (W := 0) (addZ l Z a0 hw [] b674 ((2 : Int64) * dl) (1 : Int64) (0 : Int64) ((fPt i3) + (127 : Int64)) (fPt i3) m0_702 m1_702 m2_702 m3_702 T702.heap n0 zz805 f702_0 (by omega) f702_1 f702_2 f702_3 f702_4 f702_5 f702_6 (fPt_ne _) (own_ptk (by decide) (by decide)) (by rw [hz]; rfl)) hZ (hw _ (List.mem_of_getElem? (i := 20) rfl)) (hw _ (List.mem_of_getElem? (i := 6) rfl)) (by decide) (by decide)) rfl (by rw [hml]; rfl) (lenOf pd_7 rfl) rfl (by show 2 * 0 + _ ≤ _; exact Nat.le_of_eq rfl) (hb hby at_189) rfl (rfl : T702.heap = T702.heap) (by decide) (by decide) ?_
            intro v805 T805 Lc805 hQ805 X805
            obtain ⟨rfl, Nq805, e805⟩ := hQ805
            have N805 := Fr.app N702 Nq805
            refine Gl.go (fun _ hr => zXT_lload X805.here hx rfl (hb hby at_192) rfl (zXT_lconst X805.here hx rfl (hb hby at_194) (zXT_lcmp X805.here hx rfl (hb hby at_195) rfl hr))) ?_
            refine Gl.go (fun _ hr => zXS_ifNo X805.here hx rfl (hb hby at_196) rfl (XT.ll_ne_f hz) (zXS_iconst X805.here hx rfl (hb hby at_199) (zXS_goto X805.here hx rfl (pc0 := 200) (pc' := 204) rfl (hb hby at_200) (by decide) (by decide) (zXS_istore X805.here hx rfl (hb hby at_204) rfl (l' := #[sJ i0, sS, sJ i1, sS, sJ i2, sS, sJ i3, sS, sJ i4, sS, sI i5, sJ (i0 >>> ((2 : Int32).toInt64 &&& 63)), sS, sJ (i1 &&& (9223372036854775807 : Int64)), sS, sJ (fPt i3), sS, sI md, .val (.ref b663), .val (.ref b674), sI 1, sJ dl, sS]) rfl (zXS_goto X805.here hx rfl (pc0 := 206) (pc' := 324) rfl (hb hby at_206) (by decide) (by decide) (zXS_aload X805.here hx rfl (hb hby at_324) rfl rfl (zXS_aload X805.here hx rfl (hb hby at_326) rfl rfl hr))))))) ?_
            have Fc807 := (f686_1.keep K702 (ninS (own_ane (by omega)) nin0))
            have Fc808 := (f686_2.keep K702 (ninS (own_ane (by omega)) nin0))
            have Fc809 := (f686_3.keep K702 (ninS (own_ane (by omega)) nin0))
            have Fc810 := (f686_4.keep K702 (ninS (own_ane (by omega)) nin0))
            have Fc811 := (f686_5.keep K702 (ninS (own_ane (by omega)) nin0))
            have zz806 : n0 ≤ T702.heap.size := by omega
            have Ec812 := (f686_0.keep K702)
            refine gVirtualN Gl.cl (y := (⟨"com/example/evenkeel/evenkeel/share/FlooredSum", "sameAs", "(Lcom/example/evenkeel/evenkeel/share/FlooredSum;)Z"⟩ : MethodName)) (z := (⟨"com/example/evenkeel/evenkeel/share/FlooredSum", "sameAs", "(Lcom/example/evenkeel/evenkeel/share/FlooredSum;)Z"⟩ : MethodName)) (b := b663) (argsL := [(.ref b674)]) (rest := []) (mc := 0) (ms := 0) X805 hx hZ hown (mvT hZ (hw _ (List.mem_of_getElem? (i := 22) rfl))) (mvT hZ (hw _ (List.mem_of_getElem? (i := 23) rfl))) (notFace_of_selects (args := #[]) (mvT hZ (hw _ (List.mem_of_getElem? (i := 25) rfl)))) (mvT hZ (hw _ (List.mem_of_getElem? (i := 25) rfl))) (mvT hZ (hw _ (List.mem_of_getElem? (i := 24) rfl))) (by decide) Ec812 (backOf (W := 0) (sam l Z a0 hw [] b663 b674 (fPt i3) m0_686 m1_686 m2_686 m3_686 (fPt i3) m0_702 m1_702 m2_702 m3_702 T702.heap n0 zz806 Fc807 Fc808 Fc809 Fc810 Fc811 f702_1 f702_2 f702_3 f702_4 f702_5) hZ (hw _ (List.mem_of_getElem? (i := 26) rfl)) (hw _ (List.mem_of_getElem? (i := 6) rfl)) (by decide) (by decide)) rfl (by rw [hml]; rfl) (lenOf pd_8 rfl) rfl (by show 2 * 0 + _ ≤ _; exact Nat.le_of_eq rfl) (hb hby at_328) rfl e805 (by decide) (by decide) ?_
            intro v806 T806 Lc806 hQ806 X806
            obtain ⟨rfl, Nq806, e806⟩ := hQ806
            have N806 := Fr.app N805 Nq806
            refine Gl.go (fun _ hr => zXS_iload X806.here hx rfl (hb hby at_331) rfl hr) ?_
            refine Gl.go (fun _ hr => zXS_icmpNo X806.here hx rfl (hb hby at_333) rfl (XT.ii_ne_f (own_same_eq rfl p686_eq p702_eq)) (zXS_aload X806.here hx rfl (hb hby at_336) rfl rfl (zXS_aload X806.here hx rfl (hb hby at_338) rfl rfl hr))) ?_
            have zz813 : n0 ≤ T702.heap.size := by omega
            refine gVirtualN Gl.cl (y := (⟨"com/example/evenkeel/evenkeel/share/FlooredSum", "sameAs", "(Lcom/example/evenkeel/evenkeel/share/FlooredSum;)Z"⟩ : MethodName)) (z := (⟨"com/example/evenkeel/evenkeel/share/FlooredSum", "sameAs", "(Lcom/example/evenkeel/evenkeel/share/FlooredSum;)Z"⟩ : MethodName)) (b := b674) (argsL := [(.ref b663)]) (rest := []) (mc := 0) (ms := 0) X806 hx hZ hown (mvT hZ (hw _ (List.mem_of_getElem? (i := 22) rfl))) (mvT hZ (hw _ (List.mem_of_getElem? (i := 23) rfl))) (notFace_of_selects (args := #[]) (mvT hZ (hw _ (List.mem_of_getElem? (i := 25) rfl)))) (mvT hZ (hw _ (List.mem_of_getElem? (i := 25) rfl))) (mvT hZ (hw _ (List.mem_of_getElem? (i := 24) rfl))) (by decide) f702_0 (backOf (W := 0) (sam l Z a0 hw [] b674 b663 (fPt i3) m0_702 m1_702 m2_702 m3_702 (fPt i3) m0_686 m1_686 m2_686 m3_686 T702.heap n0 zz813 f702_1 f702_2 f702_3 f702_4 f702_5 Fc807 Fc808 Fc809 Fc810 Fc811) hZ (hw _ (List.mem_of_getElem? (i := 26) rfl)) (hw _ (List.mem_of_getElem? (i := 6) rfl)) (by decide) (by decide)) rfl (by rw [hml]; rfl) (lenOf pd_8 rfl) rfl (by show 2 * 0 + _ ≤ _; exact Nat.le_of_eq rfl) (hb hby at_340) rfl e806 (by decide) (by decide) ?_
            intro v813 T813 Lc813 hQ813 X813
            obtain ⟨rfl, Nq813, e813⟩ := hQ813
            have N813 := Fr.app N806 Nq813
            refine Gl.go (fun _ hr => zXS_iload X813.here hx rfl (hb hby at_343) rfl hr) ?_
            refine Gl.go (fun _ hr => zXS_icmpNo X813.here hx rfl (hb hby at_345) rfl (XT.ii_ne_f (own_sym (own_same_eq rfl p686_eq p702_eq))) (zXS_aload X813.here hx rfl (hb hby at_348) rfl rfl (zXS_aload X813.here hx rfl (hb hby at_350) rfl rfl hr))) ?_
            have zz814 : n0 ≤ T702.heap.size := by omega
            refine gVirtualN Gl.cl (y := (⟨"com/example/evenkeel/evenkeel/share/FlooredSum", "sameAs", "(Lcom/example/evenkeel/evenkeel/share/FlooredSum;)Z"⟩ : MethodName)) (z := (⟨"com/example/evenkeel/evenkeel/share/FlooredSum", "sameAs", "(Lcom/example/evenkeel/evenkeel/share/FlooredSum;)Z"⟩ : MethodName)) (b := b663) (argsL := [(.ref b663)]) (rest := []) (mc := 0) (ms := 0) X813 hx hZ hown (mvT hZ (hw _ (List.mem_of_getElem? (i := 22) rfl))) (mvT hZ (hw _ (List.mem_of_getElem? (i := 23) rfl))) (notFace_of_selects (args := #[]) (mvT hZ (hw _ (List.mem_of_getElem? (i := 25) rfl)))) (mvT hZ (hw _ (List.mem_of_getElem? (i := 25) rfl))) (mvT hZ (hw _ (List.mem_of_getElem? (i := 24) rfl))) (by decide) Ec812 (backOf (W := 0) (sam l Z a0 hw [] b663 b663 (fPt i3) m0_686 m1_686 m2_686 m3_686 (fPt i3) m0_686 m1_686 m2_686 m3_686 T702.heap n0 zz814 Fc807 Fc808 Fc809 Fc810 Fc811 Fc807 Fc808 Fc809 Fc810 Fc811) hZ (hw _ (List.mem_of_getElem? (i := 26) rfl)) (hw _ (List.mem_of_getElem? (i := 6) rfl)) (by decide) (by decide)) rfl (by rw [hml]; rfl) (lenOf pd_8 rfl) rfl (by show 2 * 0 + _ ≤ _; exact Nat.le_of_eq rfl) (hb hby at_352) rfl e813 (by decide) (by decide) ?_
            intro v814 T814 Lc814 hQ814 X814
            obtain ⟨rfl, Nq814, e814⟩ := hQ814
            have N814 := Fr.app N813 Nq814
            refine Gl.go (fun _ hr => zXS_ifNo X814.here hx rfl (hb hby at_355) rfl (XT.i0_eq_f (by rw [own_same_refl]; decide)) (zXS_iconst X814.here hx rfl (hb hby at_358) (zXS_goto X814.here hx rfl (pc0 := 359) (pc' := 363) rfl (hb hby at_359) (by decide) (by decide) hr))) ?_
            obtain ⟨fs, hr, hrun, hended, hW, hsame⟩ := X814.leave (v := some (.int (1 : Int32))) (fun h => by rw [Bd.returns] at h; cases h)
            refine ⟨_, _, retN X814 hx (t := .boolean) Bd.returns (by simp) (hb hby at_363) hr, hrun, hended, _, _, rfl, ?_, ⟨⟨_, rfl⟩, hW, hsame.mono (by decide) (by decide)⟩⟩
            show Qlawrm Z i0 i1 i2 i3 i4 i5 h0 n0 _ T814.heap _
            rw [e814]
            exact ⟨rfl, N814, (((((((Keep.refl h0 []).ext E663).trans K665 (allS (P := fun x_ => x_ ∈ ([] : List Addr) ∨ h0.size ≤ x_) (Or.inr (own_ale (by omega))) all0)).ext E674).trans K676 (allS (P := fun x_ => x_ ∈ ([] : List Addr) ∨ h0.size ≤ x_) (Or.inr (own_ale (by omega))) all0)).trans K686 (allS (P := fun x_ => x_ ∈ ([] : List Addr) ∨ h0.size ≤ x_) (Or.inr (own_ale (by omega))) all0)).trans K702 (allS (P := fun x_ => x_ ∈ ([] : List Addr) ∨ h0.size ≤ x_) (Or.inr (own_ale (by omega))) all0))⟩
          · show Gl p.tables e below _ (T702.setTop (mkF m 189 #[sJ i0, sS, sJ i1, sS, sJ i2, sS, sJ i3, sS, sJ i4, sS, sI i5, sJ (i0 >>> ((2 : Int32).toInt64 &&& 63)), sS, sJ (i1 &&& (9223372036854775807 : Int64)), sS, sJ (fPt i3), sS, sI md, .val (.ref b663), .val (.ref b674), sU, sJ dl, sS] [(.long ((fPt i3) + (127 : Int64))), (.long (0 : Int64)), (.long (1 : Int64)), (.long ((2 : Int64) * dl)), (.ref b674)]))
            have zz815 : n0 ≤ T702.heap.size := by omega
            refine gVirtualN Gl.cl (y := (⟨"com/example/evenkeel/evenkeel/share/FlooredSum", "add", "(JJJJ)V"⟩ : MethodName)) (z := (⟨"com/example/evenkeel/evenkeel/share/FlooredSum", "add", "(JJJJ)V"⟩ : MethodName)) (b := b674) (argsL := [(.long ((2 : Int64) * dl)), (.long (1 : Int64)), (.long (0 : Int64)), (.long ((fPt i3) + (127 : Int64)))]) (rest := []) (mc := 0) (ms := 0) X702 hx hZ hown (mvT hZ (hw _ (List.mem_of_getElem? (i := 16) rfl))) (mvT hZ (hw _ (List.mem_of_getElem? (i := 17) rfl))) (notFace_of_selects (args := #[]) (mvT hZ (hw _ (List.mem_of_getElem? (i := 19) rfl)))) (mvT hZ (hw _ (List.mem_of_getElem? (i := 19) rfl))) (mvT hZ (hw _ (List.mem_of_getElem? (i := 18) rfl))) (by decide) f702_0 (backOf (W := 0) (addB3 l Z a0 hw [] b674 ((2 : Int64) * dl) (fPt i3) m0_702 m1_702 m2_702 m3_702 T702.heap n0 zz815 f702_0 (by omega) f702_1 f702_2 f702_3 f702_4 f702_5 f702_6 (fPt_ne _) p702_sg (own_nz (by rw [own_two hdb]; have := own_nz' hz; omega)) (own_mag0 (by rw [own_two hdb]; omega)) (own_nz (by have := own_q hdb hz; omega)) (own_negne (own_nz (by have := own_q hdb hz; omega))) (own_ptk (by decide) (by decide)) (own_even hdb) (by have := own_q hdb hz; omega) (by have h1 := own_q hdb hz; have h2 := c_lneg (ushrL (fMag ((2 : Int64) * dl)) (1 : Int32)); have h3 := rng64 (-(ushrL (fMag ((2 : Int64) * dl)) (1 : Int32))); omega)) hZ (hw _ (List.mem_of_getElem? (i := 20) rfl)) (hw _ (List.mem_of_getElem? (i := 6) rfl)) (by decide) (by decide)) rfl (by rw [hml]; rfl) (lenOf pd_7 rfl) rfl (by show 2 * 0 + _ ≤ _; exact Nat.le_of_eq rfl) (hb hby at_189) rfl (rfl : T702.heap = T702.heap) (by decide) (by decide) ?_
            intro v815 T815 Lc815 hQ815 X815
            obtain ⟨m0_815, m1_815, m2_815, m3_815, rfl, Nq815, K815, f815_0, f815_1, f815_2, f815_3, f815_4, f815_5, f815_6, p815_df⟩ := hQ815
            have z816 : T702.heap.size ≤ T815.heap.size := K815.1
            have N815 := Fr.app N702 Nq815
            have lt817 := own_alt f815_0.lt
            have lt818 := own_alt f815_1.lt
            have lt819 := own_alt f815_2.lt
            have lt820 := own_alt f815_3.lt
            have lt821 := own_alt f815_4.lt
            have lt822 := own_alt f815_5.lt
            have lt823 := own_alt f815_6.lt
            refine Gl.go (fun _ hr => zXT_lload X815.here hx rfl (hb hby at_192) rfl (zXT_lconst X815.here hx rfl (hb hby at_194) (zXT_lcmp X815.here hx rfl (hb hby at_195) rfl hr))) ?_
            refine Gl.go (fun _ hr => zXS_ifYes X815.here hx rfl (pc0 := 196) (pc' := 203) rfl (hb hby at_196) rfl (XT.ll_ne_t hz) (by decide) (by decide) (zXS_iconst X815.here hx rfl (hb hby at_203) (zXS_istore X815.here hx rfl (hb hby at_204) rfl (l' := #[sJ i0, sS, sJ i1, sS, sJ i2, sS, sJ i3, sS, sJ i4, sS, sI i5, sJ (i0 >>> ((2 : Int32).toInt64 &&& 63)), sS, sJ (i1 &&& (9223372036854775807 : Int64)), sS, sJ (fPt i3), sS, sI md, .val (.ref b663), .val (.ref b674), sI 0, sJ dl, sS]) rfl (zXS_goto X815.here hx rfl (pc0 := 206) (pc' := 324) rfl (hb hby at_206) (by decide) (by decide) (zXS_aload X815.here hx rfl (hb hby at_324) rfl rfl (zXS_aload X815.here hx rfl (hb hby at_326) rfl rfl hr)))))) ?_
            have Fc825 := ((f686_1.keep K702 (ninS (own_ane (by omega)) nin0)).keep K815 (ninS (own_ane (by omega)) nin0))
            have Fc826 := ((f686_2.keep K702 (ninS (own_ane (by omega)) nin0)).keep K815 (ninS (own_ane (by omega)) nin0))
            have Fc827 := ((f686_3.keep K702 (ninS (own_ane (by omega)) nin0)).keep K815 (ninS (own_ane (by omega)) nin0))
            have Fc828 := ((f686_4.keep K702 (ninS (own_ane (by omega)) nin0)).keep K815 (ninS (own_ane (by omega)) nin0))
            have Fc829 := ((f686_5.keep K702 (ninS (own_ane (by omega)) nin0)).keep K815 (ninS (own_ane (by omega)) nin0))
            have zz824 : n0 ≤ T815.heap.size := by omega
            have Ec830 := ((f686_0.keep K702).keep K815)
            refine gVirtualN Gl.cl (y := (⟨"com/example/evenkeel/evenkeel/share/FlooredSum", "sameAs", "(Lcom/example/evenkeel/evenkeel/share/FlooredSum;)Z"⟩ : MethodName)) (z := (⟨"com/example/evenkeel/evenkeel/share/FlooredSum", "sameAs", "(Lcom/example/evenkeel/evenkeel/share/FlooredSum;)Z"⟩ : MethodName)) (b := b663) (argsL := [(.ref b674)]) (rest := []) (mc := 0) (ms := 0) X815 hx hZ hown (mvT hZ (hw _ (List.mem_of_getElem? (i := 22) rfl))) (mvT hZ (hw _ (List.mem_of_getElem? (i := 23) rfl))) (notFace_of_selects (args := #[]) (mvT hZ (hw _ (List.mem_of_getElem? (i := 25) rfl)))) (mvT hZ (hw _ (List.mem_of_getElem? (i := 25) rfl))) (mvT hZ (hw _ (List.mem_of_getElem? (i := 24) rfl))) (by decide) Ec830 (backOf (W := 0) (sam l Z a0 hw [] b663 b674 (fPt i3) m0_686 m1_686 m2_686 m3_686 (fPt i3) m0_815 m1_815 m2_815 m3_815 T815.heap n0 zz824 Fc825 Fc826 Fc827 Fc828 Fc829 f815_1 f815_2 f815_3 f815_4 f815_5) hZ (hw _ (List.mem_of_getElem? (i := 26) rfl)) (hw _ (List.mem_of_getElem? (i := 6) rfl)) (by decide) (by decide)) rfl (by rw [hml]; rfl) (lenOf pd_8 rfl) rfl (by show 2 * 0 + _ ≤ _; exact Nat.le_of_eq rfl) (hb hby at_328) rfl (rfl : T815.heap = T815.heap) (by decide) (by decide) ?_
            intro v824 T824 Lc824 hQ824 X824
            obtain ⟨rfl, Nq824, e824⟩ := hQ824
            have N824 := Fr.app N815 Nq824
            refine Gl.go (fun _ hr => zXS_iload X824.here hx rfl (hb hby at_331) rfl hr) ?_
            refine Gl.go (fun _ hr => zXS_icmpNo X824.here hx rfl (hb hby at_333) rfl (XT.ii_ne_f (own_df3 p686_eq p702_eq p815_df)) (zXS_aload X824.here hx rfl (hb hby at_336) rfl rfl (zXS_aload X824.here hx rfl (hb hby at_338) rfl rfl hr))) ?_
            have zz831 : n0 ≤ T815.heap.size := by omega
            refine gVirtualN Gl.cl (y := (⟨"com/example/evenkeel/evenkeel/share/FlooredSum", "sameAs", "(Lcom/example/evenkeel/evenkeel/share/FlooredSum;)Z"⟩ : MethodName)) (z := (⟨"com/example/evenkeel/evenkeel/share/FlooredSum", "sameAs", "(Lcom/example/evenkeel/evenkeel/share/FlooredSum;)Z"⟩ : MethodName)) (b := b674) (argsL := [(.ref b663)]) (rest := []) (mc := 0) (ms := 0) X824 hx hZ hown (mvT hZ (hw _ (List.mem_of_getElem? (i := 22) rfl))) (mvT hZ (hw _ (List.mem_of_getElem? (i := 23) rfl))) (notFace_of_selects (args := #[]) (mvT hZ (hw _ (List.mem_of_getElem? (i := 25) rfl)))) (mvT hZ (hw _ (List.mem_of_getElem? (i := 25) rfl))) (mvT hZ (hw _ (List.mem_of_getElem? (i := 24) rfl))) (by decide) f815_0 (backOf (W := 0) (sam l Z a0 hw [] b674 b663 (fPt i3) m0_815 m1_815 m2_815 m3_815 (fPt i3) m0_686 m1_686 m2_686 m3_686 T815.heap n0 zz831 f815_1 f815_2 f815_3 f815_4 f815_5 Fc825 Fc826 Fc827 Fc828 Fc829) hZ (hw _ (List.mem_of_getElem? (i := 26) rfl)) (hw _ (List.mem_of_getElem? (i := 6) rfl)) (by decide) (by decide)) rfl (by rw [hml]; rfl) (lenOf pd_8 rfl) rfl (by show 2 * 0 + _ ≤ _; exact Nat.le_of_eq rfl) (hb hby at_340) rfl e824 (by decide) (by decide) ?_
            intro v831 T831 Lc831 hQ831 X831
            obtain ⟨rfl, Nq831, e831⟩ := hQ831
            have N831 := Fr.app N824 Nq831
            refine Gl.go (fun _ hr => zXS_iload X831.here hx rfl (hb hby at_343) rfl hr) ?_
            refine Gl.go (fun _ hr => zXS_icmpNo X831.here hx rfl (hb hby at_345) rfl (XT.ii_ne_f (own_sym (own_df3 p686_eq p702_eq p815_df))) (zXS_aload X831.here hx rfl (hb hby at_348) rfl rfl (zXS_aload X831.here hx rfl (hb hby at_350) rfl rfl hr))) ?_
            have zz832 : n0 ≤ T815.heap.size := by omega
            refine gVirtualN Gl.cl (y := (⟨"com/example/evenkeel/evenkeel/share/FlooredSum", "sameAs", "(Lcom/example/evenkeel/evenkeel/share/FlooredSum;)Z"⟩ : MethodName)) (z := (⟨"com/example/evenkeel/evenkeel/share/FlooredSum", "sameAs", "(Lcom/example/evenkeel/evenkeel/share/FlooredSum;)Z"⟩ : MethodName)) (b := b663) (argsL := [(.ref b663)]) (rest := []) (mc := 0) (ms := 0) X831 hx hZ hown (mvT hZ (hw _ (List.mem_of_getElem? (i := 22) rfl))) (mvT hZ (hw _ (List.mem_of_getElem? (i := 23) rfl))) (notFace_of_selects (args := #[]) (mvT hZ (hw _ (List.mem_of_getElem? (i := 25) rfl)))) (mvT hZ (hw _ (List.mem_of_getElem? (i := 25) rfl))) (mvT hZ (hw _ (List.mem_of_getElem? (i := 24) rfl))) (by decide) Ec830 (backOf (W := 0) (sam l Z a0 hw [] b663 b663 (fPt i3) m0_686 m1_686 m2_686 m3_686 (fPt i3) m0_686 m1_686 m2_686 m3_686 T815.heap n0 zz832 Fc825 Fc826 Fc827 Fc828 Fc829 Fc825 Fc826 Fc827 Fc828 Fc829) hZ (hw _ (List.mem_of_getElem? (i := 26) rfl)) (hw _ (List.mem_of_getElem? (i := 6) rfl)) (by decide) (by decide)) rfl (by rw [hml]; rfl) (lenOf pd_8 rfl) rfl (by show 2 * 0 + _ ≤ _; exact Nat.le_of_eq rfl) (hb hby at_352) rfl e831 (by decide) (by decide) ?_
            intro v832 T832 Lc832 hQ832 X832
            obtain ⟨rfl, Nq832, e832⟩ := hQ832
            have N832 := Fr.app N831 Nq832
            refine Gl.go (fun _ hr => zXS_ifNo X832.here hx rfl (hb hby at_355) rfl (XT.i0_eq_f (by rw [own_same_refl]; decide)) (zXS_iconst X832.here hx rfl (hb hby at_358) (zXS_goto X832.here hx rfl (pc0 := 359) (pc' := 363) rfl (hb hby at_359) (by decide) (by decide) hr))) ?_
            obtain ⟨fs, hr, hrun, hended, hW, hsame⟩ := X832.leave (v := some (.int (1 : Int32))) (fun h => by rw [Bd.returns] at h; cases h)
            refine ⟨_, _, retN X832 hx (t := .boolean) Bd.returns (by simp) (hb hby at_363) hr, hrun, hended, _, _, rfl, ?_, ⟨⟨_, rfl⟩, hW, hsame.mono (by decide) (by decide)⟩⟩
            show Qlawrm Z i0 i1 i2 i3 i4 i5 h0 n0 _ T832.heap _
            rw [e832]
            exact ⟨rfl, N832, ((((((((Keep.refl h0 []).ext E663).trans K665 (allS (P := fun x_ => x_ ∈ ([] : List Addr) ∨ h0.size ≤ x_) (Or.inr (own_ale (by omega))) all0)).ext E674).trans K676 (allS (P := fun x_ => x_ ∈ ([] : List Addr) ∨ h0.size ≤ x_) (Or.inr (own_ale (by omega))) all0)).trans K686 (allS (P := fun x_ => x_ ∈ ([] : List Addr) ∨ h0.size ≤ x_) (Or.inr (own_ale (by omega))) all0)).trans K702 (allS (P := fun x_ => x_ ∈ ([] : List Addr) ∨ h0.size ≤ x_) (Or.inr (own_ale (by omega))) all0)).trans K815 (allS (P := fun x_ => x_ ∈ ([] : List Addr) ∨ h0.size ≤ x_) (Or.inr (own_ale (by omega))) all0))⟩
  · refine Gl.go (fun _ hr => zXS_icmpYes X676.here hx rfl (pc0 := 75) (pc' := 209) rfl (hb hby at_75) rfl (XT.ii_ge_t hc685) (by decide) (by decide) (zXS_iload X676.here hx rfl (hb hby at_209) rfl (zXS_iconst X676.here hx rfl (hb hby at_211) hr))) ?_
    by_cases hc833 : md = (4 : Int32)
    · refine Gl.go (fun _ hr => zXS_icmpNo X676.here hx rfl (hb hby at_212) rfl (XT.ii_ne_f hc833) (zXT_lload X676.here hx rfl (hb hby at_215) rfl hr)) ?_
      refine Gl.go (X676.ldc2Long hx hown (mvT hZ (hw _ (List.mem_of_getElem? (i := 1) rfl))) rfl (hb hby at_217)) ?_
      refine Gl.go (fun _ hr => zXT_lcmp X676.here hx rfl (hb hby at_220) rfl hr) ?_
      obtain ⟨T834, ⟨lc834, N834, X834, e834⟩, st834⟩ : Sg (fun U => ∃ lc, Fr n0 lc ∧ Stand p l e room_1 s m #[(.long i0), (.long i1), (.long i2), (.long i3), (.long i4), (.int i5)] below meth c U lc 2 14 ∧ U.heap = T676.heap) (mkF m 232 #[sJ i0, sS, sJ i1, sS, sJ i2, sS, sJ i3, sS, sJ i4, sS, sI i5, sJ (i0 >>> ((2 : Int32).toInt64 &&& 63)), sS, sJ (i1 &&& (9223372036854775807 : Int64)), sS, sJ (fPt i3), sS, sI md, .val (.ref b663), .val (.ref b674), sU, sU, sU] [(.long (fOt i4))]) p.tables e below (T676.setTop (mkF m 221 #[sJ i0, sS, sJ i1, sS, sJ i2, sS, sJ i3, sS, sJ i4, sS, sI i5, sJ (i0 >>> ((2 : Int32).toInt64 &&& 63)), sS, sJ (i1 &&& (9223372036854775807 : Int64)), sS, sJ (fPt i3), sS, sI md, .val (.ref b663), .val (.ref b674), sU, sU, sU] [(.int (XT.cmpL i4 (-9223372036854775808 : Int64)))])) := by
        by_cases hc835 : i4 = (-9223372036854775808 : Int64)
        · refine Sg.go (fun _ hr => zXS_ifNo X676.here hx rfl (hb hby at_221) rfl (XT.ll_ne_f hc835) hr) ?_
          refine Sg.go (X676.ldc2Long hx hown (mvT hZ (hw _ (List.mem_of_getElem? (i := 71) rfl))) rfl (hb hby at_224)) ?_
          refine Sg.go (fun _ hr => zXS_goto X676.here hx rfl (pc0 := 227) (pc' := 232) rfl (hb hby at_227) (by decide) (by decide) hr) ?_
          show Sg _ _ p.tables e below (T676.setTop (mkF m 232 #[sJ i0, sS, sJ i1, sS, sJ i2, sS, sJ i3, sS, sJ i4, sS, sI i5, sJ (i0 >>> ((2 : Int32).toInt64 &&& 63)), sS, sJ (i1 &&& (9223372036854775807 : Int64)), sS, sJ (fPt i3), sS, sI md, .val (.ref b663), .val (.ref b674), sU, sU, sU] [(.long (-9223372036854775807 : Int64))]))
          exact ⟨T676, ⟨_, N676, X676, (rfl : T676.heap = T676.heap)⟩, fun _ hr => by rw [fOt, if_pos hc835] at hr; exact hr⟩
        · refine Sg.go (fun _ hr => zXS_ifYes X676.here hx rfl (pc0 := 221) (pc' := 230) rfl (hb hby at_221) rfl (XT.ll_ne_t hc835) (by decide) (by decide) (zXT_lload X676.here hx rfl (hb hby at_230) rfl hr)) ?_
          show Sg _ _ p.tables e below (T676.setTop (mkF m 232 #[sJ i0, sS, sJ i1, sS, sJ i2, sS, sJ i3, sS, sJ i4, sS, sI i5, sJ (i0 >>> ((2 : Int32).toInt64 &&& 63)), sS, sJ (i1 &&& (9223372036854775807 : Int64)), sS, sJ (fPt i3), sS, sI md, .val (.ref b663), .val (.ref b674), sU, sU, sU] [(.long i4)]))
          exact ⟨T676, ⟨_, N676, X676, (rfl : T676.heap = T676.heap)⟩, fun _ hr => by rw [fOt, if_neg hc835] at hr; exact hr⟩
      refine Gl.go st834 ?_
      show Gl p.tables e below _ (T834.setTop (mkF m 232 #[sJ i0, sS, sJ i1, sS, sJ i2, sS, sJ i3, sS, sJ i4, sS, sI i5, sJ (i0 >>> ((2 : Int32).toInt64 &&& 63)), sS, sJ (i1 &&& (9223372036854775807 : Int64)), sS, sJ (fPt i3), sS, sI md, .val (.ref b663), .val (.ref b674), sU, sU, sU] [(.long (fOt i4))]))
      refine Gl.go (fun _ hr => zXT_lstore X834.here hx rfl (hb hby at_232) rfl (l' := #[sJ i0, sS, sJ i1, sS, sJ i2, sS, sJ i3, sS, sJ i4, sS, sI i5, sJ (i0 >>> ((2 : Int32).toInt64 &&& 63)), sS, sJ (i1 &&& (9223372036854775807 : Int64)), sS, sJ (fPt i3), sS, sI md, .val (.ref b663), .val (.ref b674), sU, sJ (fOt i4), sS]) rfl (zXS_aload X834.here hx rfl (hb hby at_234) rfl rfl (zXT_lload X834.here hx rfl (hb hby at_236) rfl (zXT_lload X834.here hx rfl (hb hby at_238) rfl (zXT_lload X834.here hx rfl (hb hby at_240) rfl (zXT_lload X834.here hx rfl (hb hby at_242) rfl hr)))))) ?_
      have Ec837 := ((f665_0.ext E674).keep K676)
      have Fc838 := ((f665_1.ext E674).keep K676 (ninS (own_ane (by omega)) nin0))
      have Fc839 := ((f665_2.ext E674).keep K676 (ninS (own_ane (by omega)) nin0))
      have Fc840 := ((f665_3.ext E674).keep K676 (ninS (own_ane (by omega)) nin0))
      have Fc841 := ((f665_4.ext E674).keep K676 (ninS (own_ane (by omega)) nin0))
      have Fc842 := ((f665_5.ext E674).keep K676 (ninS (own_ane (by omega)) nin0))
      have Fc843 := ((f665_6.ext E674).keep K676 (ninS (own_ane (by omega)) nin0))
      have zz836 : n0 ≤ T676.heap.size := by omega
      refine gVirtualN Gl.cl (y := (⟨"com/example/evenkeel/evenkeel/share/FlooredSum", "add", "(JJJJ)V"⟩ : MethodName)) (z := (⟨"com/example/evenkeel/evenkeel/share/FlooredSum", "add", "(JJJJ)V"⟩ : MethodName)) (b := b663) (argsL := [(.long (i0 >>> ((2 : Int32).toInt64 &&& 63))), (.long (i1 &&& (9223372036854775807 : Int64))), (.long i2), (.long (fPt i3))]) (rest := []) (mc := 0) (ms := 0) X834 hx hZ hown (mvT hZ (hw _ (List.mem_of_getElem? (i := 16) rfl))) (mvT hZ (hw _ (List.mem_of_getElem? (i := 17) rfl))) (notFace_of_selects (args := #[]) (mvT hZ (hw _ (List.mem_of_getElem? (i := 19) rfl)))) (mvT hZ (hw _ (List.mem_of_getElem? (i := 19) rfl))) (mvT hZ (hw _ (List.mem_of_getElem? (i := 18) rfl))) (by decide) Ec837 (backOf (W := 0) (addA l Z a0 hw [] b663 (i0 >>> ((2 : Int32).toInt64 &&& 63)) (i1 &&& (9223372036854775807 : Int64)) i2 (fPt i3) T676.heap n0 zz836 Ec837 (by omega) Fc838 Fc839 Fc840 Fc841 Fc842 Fc843) hZ (hw _ (List.mem_of_getElem? (i := 20) rfl)) (hw _ (List.mem_of_getElem? (i := 6) rfl)) (by decide) (by decide)) rfl (by rw [hml]; rfl) (lenOf pd_7 rfl) rfl (by show 2 * 0 + _ ≤ _; exact Nat.le_of_eq rfl) (hb hby at_244) rfl e834 (by decide) (by decide) ?_
      intro v836 T836 Lc836 hQ836 X836
      obtain ⟨m0_836, m1_836, m2_836, m3_836, rfl, Nq836, K836, f836_0, f836_1, f836_2, f836_3, f836_4, f836_5, f836_6, p836_eq, p836_sg⟩ := hQ836
      have z844 : T676.heap.size ≤ T836.heap.size := K836.1
      have N836 := Fr.app N834 Nq836
      have lt845 := own_alt f836_0.lt
      have lt846 := own_alt f836_1.lt
      have lt847 := own_alt f836_2.lt
      have lt848 := own_alt f836_3.lt
      have lt849 := own_alt f836_4.lt
      have lt850 := own_alt f836_5.lt
      have lt851 := own_alt f836_6.lt
      refine Gl.go (fun _ hr => zXS_aload X836.here hx rfl (hb hby at_247) rfl rfl (zXT_lload X836.here hx rfl (hb hby at_249) rfl (zXT_lload X836.here hx rfl (hb hby at_251) rfl (zXT_lload X836.here hx rfl (hb hby at_253) rfl (zXT_lload X836.here hx rfl (hb hby at_255) rfl hr))))) ?_
      have Ec853 := (f676_0.keep K836)
      have Fc854 := (f676_1.keep K836 (ninS (own_ane (by omega)) nin0))
      have Fc855 := (f676_2.keep K836 (ninS (own_ane (by omega)) nin0))
      have Fc856 := (f676_3.keep K836 (ninS (own_ane (by omega)) nin0))
      have Fc857 := (f676_4.keep K836 (ninS (own_ane (by omega)) nin0))
      have Fc858 := (f676_5.keep K836 (ninS (own_ane (by omega)) nin0))
      have Fc859 := (f676_6.keep K836 (ninS (own_ane (by omega)) nin0))
      have zz852 : n0 ≤ T836.heap.size := by omega
      refine gVirtualN Gl.cl (y := (⟨"com/example/evenkeel/evenkeel/share/FlooredSum", "add", "(JJJJ)V"⟩ : MethodName)) (z := (⟨"com/example/evenkeel/evenkeel/share/FlooredSum", "add", "(JJJJ)V"⟩ : MethodName)) (b := b674) (argsL := [(.long (i0 >>> ((2 : Int32).toInt64 &&& 63))), (.long (i1 &&& (9223372036854775807 : Int64))), (.long i2), (.long (fOt i4))]) (rest := []) (mc := 0) (ms := 0) X836 hx hZ hown (mvT hZ (hw _ (List.mem_of_getElem? (i := 16) rfl))) (mvT hZ (hw _ (List.mem_of_getElem? (i := 17) rfl))) (notFace_of_selects (args := #[]) (mvT hZ (hw _ (List.mem_of_getElem? (i := 19) rfl)))) (mvT hZ (hw _ (List.mem_of_getElem? (i := 19) rfl))) (mvT hZ (hw _ (List.mem_of_getElem? (i := 18) rfl))) (by decide) Ec853 (backOf (W := 0) (addA l Z a0 hw [] b674 (i0 >>> ((2 : Int32).toInt64 &&& 63)) (i1 &&& (9223372036854775807 : Int64)) i2 (fOt i4) T836.heap n0 zz852 Ec853 (by omega) Fc854 Fc855 Fc856 Fc857 Fc858 Fc859) hZ (hw _ (List.mem_of_getElem? (i := 20) rfl)) (hw _ (List.mem_of_getElem? (i := 6) rfl)) (by decide) (by decide)) rfl (by rw [hml]; rfl) (lenOf pd_7 rfl) rfl (by show 2 * 0 + _ ≤ _; exact Nat.le_of_eq rfl) (hb hby at_257) rfl (rfl : T836.heap = T836.heap) (by decide) (by decide) ?_
      intro v852 T852 Lc852 hQ852 X852
      obtain ⟨m0_852, m1_852, m2_852, m3_852, rfl, Nq852, K852, f852_0, f852_1, f852_2, f852_3, f852_4, f852_5, f852_6, p852_eq, p852_sg⟩ := hQ852
      have z860 : T836.heap.size ≤ T852.heap.size := K852.1
      have N852 := Fr.app N836 Nq852
      have lt861 := own_alt f852_0.lt
      have lt862 := own_alt f852_1.lt
      have lt863 := own_alt f852_2.lt
      have lt864 := own_alt f852_3.lt
      have lt865 := own_alt f852_4.lt
      have lt866 := own_alt f852_5.lt
      have lt867 := own_alt f852_6.lt
      refine Gl.go (fun _ hr => zXT_lload X852.here hx rfl (hb hby at_260) rfl (zXT_lload X852.here hx rfl (hb hby at_262) rfl (zXT_lcmp X852.here hx rfl (hb hby at_264) rfl hr))) ?_
      by_cases hc868 : (fOt i4) = (fPt i3)
      · refine Gl.go (fun _ hr => zXS_ifNo X852.here hx rfl (hb hby at_265) rfl (XT.ll_ne_f hc868) (zXS_iconst X852.here hx rfl (hb hby at_268) (zXS_goto X852.here hx rfl (pc0 := 269) (pc' := 273) rfl (hb hby at_269) (by decide) (by decide) (zXS_istore X852.here hx rfl (hb hby at_273) rfl (l' := #[sJ i0, sS, sJ i1, sS, sJ i2, sS, sJ i3, sS, sJ i4, sS, sI i5, sJ (i0 >>> ((2 : Int32).toInt64 &&& 63)), sS, sJ (i1 &&& (9223372036854775807 : Int64)), sS, sJ (fPt i3), sS, sI md, .val (.ref b663), .val (.ref b674), sI 1, sJ (fOt i4), sS]) rfl (zXS_goto X852.here hx rfl (pc0 := 275) (pc' := 324) rfl (hb hby at_275) (by decide) (by decide) (zXS_aload X852.here hx rfl (hb hby at_324) rfl rfl (zXS_aload X852.here hx rfl (hb hby at_326) rfl rfl hr))))))) ?_
        have Fc870 := (f836_1.keep K852 (ninS (own_ane (by omega)) nin0))
        have Fc871 := (f836_2.keep K852 (ninS (own_ane (by omega)) nin0))
        have Fc872 := (f836_3.keep K852 (ninS (own_ane (by omega)) nin0))
        have Fc873 := (f836_4.keep K852 (ninS (own_ane (by omega)) nin0))
        have Fc874 := (f836_5.keep K852 (ninS (own_ane (by omega)) nin0))
        have zz869 : n0 ≤ T852.heap.size := by omega
        have Ec875 := (f836_0.keep K852)
        refine gVirtualN Gl.cl (y := (⟨"com/example/evenkeel/evenkeel/share/FlooredSum", "sameAs", "(Lcom/example/evenkeel/evenkeel/share/FlooredSum;)Z"⟩ : MethodName)) (z := (⟨"com/example/evenkeel/evenkeel/share/FlooredSum", "sameAs", "(Lcom/example/evenkeel/evenkeel/share/FlooredSum;)Z"⟩ : MethodName)) (b := b663) (argsL := [(.ref b674)]) (rest := []) (mc := 0) (ms := 0) X852 hx hZ hown (mvT hZ (hw _ (List.mem_of_getElem? (i := 22) rfl))) (mvT hZ (hw _ (List.mem_of_getElem? (i := 23) rfl))) (notFace_of_selects (args := #[]) (mvT hZ (hw _ (List.mem_of_getElem? (i := 25) rfl)))) (mvT hZ (hw _ (List.mem_of_getElem? (i := 25) rfl))) (mvT hZ (hw _ (List.mem_of_getElem? (i := 24) rfl))) (by decide) Ec875 (backOf (W := 0) (sam l Z a0 hw [] b663 b674 (fPt i3) m0_836 m1_836 m2_836 m3_836 (fOt i4) m0_852 m1_852 m2_852 m3_852 T852.heap n0 zz869 Fc870 Fc871 Fc872 Fc873 Fc874 f852_1 f852_2 f852_3 f852_4 f852_5) hZ (hw _ (List.mem_of_getElem? (i := 26) rfl)) (hw _ (List.mem_of_getElem? (i := 6) rfl)) (by decide) (by decide)) rfl (by rw [hml]; rfl) (lenOf pd_8 rfl) rfl (by show 2 * 0 + _ ≤ _; exact Nat.le_of_eq rfl) (hb hby at_328) rfl (rfl : T852.heap = T852.heap) (by decide) (by decide) ?_
        intro v869 T869 Lc869 hQ869 X869
        obtain ⟨rfl, Nq869, e869⟩ := hQ869
        have N869 := Fr.app N852 Nq869
        refine Gl.go (fun _ hr => zXS_iload X869.here hx rfl (hb hby at_331) rfl hr) ?_
        refine Gl.go (fun _ hr => zXS_icmpNo X869.here hx rfl (hb hby at_333) rfl (XT.ii_ne_f (own_same_eq hc868.symm p836_eq p852_eq)) (zXS_aload X869.here hx rfl (hb hby at_336) rfl rfl (zXS_aload X869.here hx rfl (hb hby at_338) rfl rfl hr))) ?_
        have zz876 : n0 ≤ T852.heap.size := by omega
        refine gVirtualN Gl.cl (y := (⟨"com/example/evenkeel/evenkeel/share/FlooredSum", "sameAs", "(Lcom/example/evenkeel/evenkeel/share/FlooredSum;)Z"⟩ : MethodName)) (z := (⟨"com/example/evenkeel/evenkeel/share/FlooredSum", "sameAs", "(Lcom/example/evenkeel/evenkeel/share/FlooredSum;)Z"⟩ : MethodName)) (b := b674) (argsL := [(.ref b663)]) (rest := []) (mc := 0) (ms := 0) X869 hx hZ hown (mvT hZ (hw _ (List.mem_of_getElem? (i := 22) rfl))) (mvT hZ (hw _ (List.mem_of_getElem? (i := 23) rfl))) (notFace_of_selects (args := #[]) (mvT hZ (hw _ (List.mem_of_getElem? (i := 25) rfl)))) (mvT hZ (hw _ (List.mem_of_getElem? (i := 25) rfl))) (mvT hZ (hw _ (List.mem_of_getElem? (i := 24) rfl))) (by decide) f852_0 (backOf (W := 0) (sam l Z a0 hw [] b674 b663 (fOt i4) m0_852 m1_852 m2_852 m3_852 (fPt i3) m0_836 m1_836 m2_836 m3_836 T852.heap n0 zz876 f852_1 f852_2 f852_3 f852_4 f852_5 Fc870 Fc871 Fc872 Fc873 Fc874) hZ (hw _ (List.mem_of_getElem? (i := 26) rfl)) (hw _ (List.mem_of_getElem? (i := 6) rfl)) (by decide) (by decide)) rfl (by rw [hml]; rfl) (lenOf pd_8 rfl) rfl (by show 2 * 0 + _ ≤ _; exact Nat.le_of_eq rfl) (hb hby at_340) rfl e869 (by decide) (by decide) ?_
        intro v876 T876 Lc876 hQ876 X876
        obtain ⟨rfl, Nq876, e876⟩ := hQ876
        have N876 := Fr.app N869 Nq876
        refine Gl.go (fun _ hr => zXS_iload X876.here hx rfl (hb hby at_343) rfl hr) ?_
        refine Gl.go (fun _ hr => zXS_icmpNo X876.here hx rfl (hb hby at_345) rfl (XT.ii_ne_f (own_sym (own_same_eq hc868.symm p836_eq p852_eq))) (zXS_aload X876.here hx rfl (hb hby at_348) rfl rfl (zXS_aload X876.here hx rfl (hb hby at_350) rfl rfl hr))) ?_
        have zz877 : n0 ≤ T852.heap.size := by omega
        refine gVirtualN Gl.cl (y := (⟨"com/example/evenkeel/evenkeel/share/FlooredSum", "sameAs", "(Lcom/example/evenkeel/evenkeel/share/FlooredSum;)Z"⟩ : MethodName)) (z := (⟨"com/example/evenkeel/evenkeel/share/FlooredSum", "sameAs", "(Lcom/example/evenkeel/evenkeel/share/FlooredSum;)Z"⟩ : MethodName)) (b := b663) (argsL := [(.ref b663)]) (rest := []) (mc := 0) (ms := 0) X876 hx hZ hown (mvT hZ (hw _ (List.mem_of_getElem? (i := 22) rfl))) (mvT hZ (hw _ (List.mem_of_getElem? (i := 23) rfl))) (notFace_of_selects (args := #[]) (mvT hZ (hw _ (List.mem_of_getElem? (i := 25) rfl)))) (mvT hZ (hw _ (List.mem_of_getElem? (i := 25) rfl))) (mvT hZ (hw _ (List.mem_of_getElem? (i := 24) rfl))) (by decide) Ec875 (backOf (W := 0) (sam l Z a0 hw [] b663 b663 (fPt i3) m0_836 m1_836 m2_836 m3_836 (fPt i3) m0_836 m1_836 m2_836 m3_836 T852.heap n0 zz877 Fc870 Fc871 Fc872 Fc873 Fc874 Fc870 Fc871 Fc872 Fc873 Fc874) hZ (hw _ (List.mem_of_getElem? (i := 26) rfl)) (hw _ (List.mem_of_getElem? (i := 6) rfl)) (by decide) (by decide)) rfl (by rw [hml]; rfl) (lenOf pd_8 rfl) rfl (by show 2 * 0 + _ ≤ _; exact Nat.le_of_eq rfl) (hb hby at_352) rfl e876 (by decide) (by decide) ?_
        intro v877 T877 Lc877 hQ877 X877
        obtain ⟨rfl, Nq877, e877⟩ := hQ877
        have N877 := Fr.app N876 Nq877
        refine Gl.go (fun _ hr => zXS_ifNo X877.here hx rfl (hb hby at_355) rfl (XT.i0_eq_f (by rw [own_same_refl]; decide)) (zXS_iconst X877.here hx rfl (hb hby at_358) (zXS_goto X877.here hx rfl (pc0 := 359) (pc' := 363) rfl (hb hby at_359) (by decide) (by decide) hr))) ?_
        obtain ⟨fs, hr, hrun, hended, hW, hsame⟩ := X877.leave (v := some (.int (1 : Int32))) (fun h => by rw [Bd.returns] at h; cases h)
        refine ⟨_, _, retN X877 hx (t := .boolean) Bd.returns (by simp) (hb hby at_363) hr, hrun, hended, _, _, rfl, ?_, ⟨⟨_, rfl⟩, hW, hsame.mono (by decide) (by decide)⟩⟩
        show Qlawrm Z i0 i1 i2 i3 i4 i5 h0 n0 _ T877.heap _
        rw [e877]
        exact ⟨rfl, N877, (((((((Keep.refl h0 []).ext E663).trans K665 (allS (P := fun x_ => x_ ∈ ([] : List Addr) ∨ h0.size ≤ x_) (Or.inr (own_ale (by omega))) all0)).ext E674).trans K676 (allS (P := fun x_ => x_ ∈ ([] : List Addr) ∨ h0.size ≤ x_) (Or.inr (own_ale (by omega))) all0)).trans K836 (allS (P := fun x_ => x_ ∈ ([] : List Addr) ∨ h0.size ≤ x_) (Or.inr (own_ale (by omega))) all0)).trans K852 (allS (P := fun x_ => x_ ∈ ([] : List Addr) ∨ h0.size ≤ x_) (Or.inr (own_ale (by omega))) all0))⟩
      · refine Gl.go (fun _ hr => zXS_ifYes X852.here hx rfl (pc0 := 265) (pc' := 272) rfl (hb hby at_265) rfl (XT.ll_ne_t hc868) (by decide) (by decide) (zXS_iconst X852.here hx rfl (hb hby at_272) (zXS_istore X852.here hx rfl (hb hby at_273) rfl (l' := #[sJ i0, sS, sJ i1, sS, sJ i2, sS, sJ i3, sS, sJ i4, sS, sI i5, sJ (i0 >>> ((2 : Int32).toInt64 &&& 63)), sS, sJ (i1 &&& (9223372036854775807 : Int64)), sS, sJ (fPt i3), sS, sI md, .val (.ref b663), .val (.ref b674), sI 0, sJ (fOt i4), sS]) rfl (zXS_goto X852.here hx rfl (pc0 := 275) (pc' := 324) rfl (hb hby at_275) (by decide) (by decide) (zXS_aload X852.here hx rfl (hb hby at_324) rfl rfl (zXS_aload X852.here hx rfl (hb hby at_326) rfl rfl hr)))))) ?_
        have Fc879 := (f836_1.keep K852 (ninS (own_ane (by omega)) nin0))
        have Fc880 := (f836_2.keep K852 (ninS (own_ane (by omega)) nin0))
        have Fc881 := (f836_3.keep K852 (ninS (own_ane (by omega)) nin0))
        have Fc882 := (f836_4.keep K852 (ninS (own_ane (by omega)) nin0))
        have Fc883 := (f836_5.keep K852 (ninS (own_ane (by omega)) nin0))
        have zz878 : n0 ≤ T852.heap.size := by omega
        have Ec884 := (f836_0.keep K852)
        refine gVirtualN Gl.cl (y := (⟨"com/example/evenkeel/evenkeel/share/FlooredSum", "sameAs", "(Lcom/example/evenkeel/evenkeel/share/FlooredSum;)Z"⟩ : MethodName)) (z := (⟨"com/example/evenkeel/evenkeel/share/FlooredSum", "sameAs", "(Lcom/example/evenkeel/evenkeel/share/FlooredSum;)Z"⟩ : MethodName)) (b := b663) (argsL := [(.ref b674)]) (rest := []) (mc := 0) (ms := 0) X852 hx hZ hown (mvT hZ (hw _ (List.mem_of_getElem? (i := 22) rfl))) (mvT hZ (hw _ (List.mem_of_getElem? (i := 23) rfl))) (notFace_of_selects (args := #[]) (mvT hZ (hw _ (List.mem_of_getElem? (i := 25) rfl)))) (mvT hZ (hw _ (List.mem_of_getElem? (i := 25) rfl))) (mvT hZ (hw _ (List.mem_of_getElem? (i := 24) rfl))) (by decide) Ec884 (backOf (W := 0) (sam l Z a0 hw [] b663 b674 (fPt i3) m0_836 m1_836 m2_836 m3_836 (fOt i4) m0_852 m1_852 m2_852 m3_852 T852.heap n0 zz878 Fc879 Fc880 Fc881 Fc882 Fc883 f852_1 f852_2 f852_3 f852_4 f852_5) hZ (hw _ (List.mem_of_getElem? (i := 26) rfl)) (hw _ (List.mem_of_getElem? (i := 6) rfl)) (by decide) (by decide)) rfl (by rw [hml]; rfl) (lenOf pd_8 rfl) rfl (by show 2 * 0 + _ ≤ _; exact Nat.le_of_eq rfl) (hb hby at_328) rfl (rfl : T852.heap = T852.heap) (by decide) (by decide) ?_
        intro v878 T878 Lc878 hQ878 X878
        obtain ⟨rfl, Nq878, e878⟩ := hQ878
        have N878 := Fr.app N852 Nq878
        refine Gl.go (fun _ hr => zXS_iload X878.here hx rfl (hb hby at_331) rfl hr) ?_
        refine Gl.go (fun _ hr => zXS_icmpNo X878.here hx rfl (hb hby at_333) rfl (XT.ii_ne_f (own_same_pt (fun q => hc868 q.symm))) (zXS_aload X878.here hx rfl (hb hby at_336) rfl rfl (zXS_aload X878.here hx rfl (hb hby at_338) rfl rfl hr))) ?_
        have zz885 : n0 ≤ T852.heap.size := by omega
        refine gVirtualN Gl.cl (y := (⟨"com/example/evenkeel/evenkeel/share/FlooredSum", "sameAs", "(Lcom/example/evenkeel/evenkeel/share/FlooredSum;)Z"⟩ : MethodName)) (z := (⟨"com/example/evenkeel/evenkeel/share/FlooredSum", "sameAs", "(Lcom/example/evenkeel/evenkeel/share/FlooredSum;)Z"⟩ : MethodName)) (b := b674) (argsL := [(.ref b663)]) (rest := []) (mc := 0) (ms := 0) X878 hx hZ hown (mvT hZ (hw _ (List.mem_of_getElem? (i := 22) rfl))) (mvT hZ (hw _ (List.mem_of_getElem? (i := 23) rfl))) (notFace_of_selects (args := #[]) (mvT hZ (hw _ (List.mem_of_getElem? (i := 25) rfl)))) (mvT hZ (hw _ (List.mem_of_getElem? (i := 25) rfl))) (mvT hZ (hw _ (List.mem_of_getElem? (i := 24) rfl))) (by decide) f852_0 (backOf (W := 0) (sam l Z a0 hw [] b674 b663 (fOt i4) m0_852 m1_852 m2_852 m3_852 (fPt i3) m0_836 m1_836 m2_836 m3_836 T852.heap n0 zz885 f852_1 f852_2 f852_3 f852_4 f852_5 Fc879 Fc880 Fc881 Fc882 Fc883) hZ (hw _ (List.mem_of_getElem? (i := 26) rfl)) (hw _ (List.mem_of_getElem? (i := 6) rfl)) (by decide) (by decide)) rfl (by rw [hml]; rfl) (lenOf pd_8 rfl) rfl (by show 2 * 0 + _ ≤ _; exact Nat.le_of_eq rfl) (hb hby at_340) rfl e878 (by decide) (by decide) ?_
        intro v885 T885 Lc885 hQ885 X885
        obtain ⟨rfl, Nq885, e885⟩ := hQ885
        have N885 := Fr.app N878 Nq885
        refine Gl.go (fun _ hr => zXS_iload X885.here hx rfl (hb hby at_343) rfl hr) ?_
        refine Gl.go (fun _ hr => zXS_icmpNo X885.here hx rfl (hb hby at_345) rfl (XT.ii_ne_f (own_sym (own_same_pt (fun q => hc868 q.symm)))) (zXS_aload X885.here hx rfl (hb hby at_348) rfl rfl (zXS_aload X885.here hx rfl (hb hby at_350) rfl rfl hr))) ?_
        have zz886 : n0 ≤ T852.heap.size := by omega
        refine gVirtualN Gl.cl (y := (⟨"com/example/evenkeel/evenkeel/share/FlooredSum", "sameAs", "(Lcom/example/evenkeel/evenkeel/share/FlooredSum;)Z"⟩ : MethodName)) (z := (⟨"com/example/evenkeel/evenkeel/share/FlooredSum", "sameAs", "(Lcom/example/evenkeel/evenkeel/share/FlooredSum;)Z"⟩ : MethodName)) (b := b663) (argsL := [(.ref b663)]) (rest := []) (mc := 0) (ms := 0) X885 hx hZ hown (mvT hZ (hw _ (List.mem_of_getElem? (i := 22) rfl))) (mvT hZ (hw _ (List.mem_of_getElem? (i := 23) rfl))) (notFace_of_selects (args := #[]) (mvT hZ (hw _ (List.mem_of_getElem? (i := 25) rfl)))) (mvT hZ (hw _ (List.mem_of_getElem? (i := 25) rfl))) (mvT hZ (hw _ (List.mem_of_getElem? (i := 24) rfl))) (by decide) Ec884 (backOf (W := 0) (sam l Z a0 hw [] b663 b663 (fPt i3) m0_836 m1_836 m2_836 m3_836 (fPt i3) m0_836 m1_836 m2_836 m3_836 T852.heap n0 zz886 Fc879 Fc880 Fc881 Fc882 Fc883 Fc879 Fc880 Fc881 Fc882 Fc883) hZ (hw _ (List.mem_of_getElem? (i := 26) rfl)) (hw _ (List.mem_of_getElem? (i := 6) rfl)) (by decide) (by decide)) rfl (by rw [hml]; rfl) (lenOf pd_8 rfl) rfl (by show 2 * 0 + _ ≤ _; exact Nat.le_of_eq rfl) (hb hby at_352) rfl e885 (by decide) (by decide) ?_
        intro v886 T886 Lc886 hQ886 X886
        obtain ⟨rfl, Nq886, e886⟩ := hQ886
        have N886 := Fr.app N885 Nq886
        refine Gl.go (fun _ hr => zXS_ifNo X886.here hx rfl (hb hby at_355) rfl (XT.i0_eq_f (by rw [own_same_refl]; decide)) (zXS_iconst X886.here hx rfl (hb hby at_358) (zXS_goto X886.here hx rfl (pc0 := 359) (pc' := 363) rfl (hb hby at_359) (by decide) (by decide) hr))) ?_
        obtain ⟨fs, hr, hrun, hended, hW, hsame⟩ := X886.leave (v := some (.int (1 : Int32))) (fun h => by rw [Bd.returns] at h; cases h)
        refine ⟨_, _, retN X886 hx (t := .boolean) Bd.returns (by simp) (hb hby at_363) hr, hrun, hended, _, _, rfl, ?_, ⟨⟨_, rfl⟩, hW, hsame.mono (by decide) (by decide)⟩⟩
        show Qlawrm Z i0 i1 i2 i3 i4 i5 h0 n0 _ T886.heap _
        rw [e886]
        exact ⟨rfl, N886, (((((((Keep.refl h0 []).ext E663).trans K665 (allS (P := fun x_ => x_ ∈ ([] : List Addr) ∨ h0.size ≤ x_) (Or.inr (own_ale (by omega))) all0)).ext E674).trans K676 (allS (P := fun x_ => x_ ∈ ([] : List Addr) ∨ h0.size ≤ x_) (Or.inr (own_ale (by omega))) all0)).trans K836 (allS (P := fun x_ => x_ ∈ ([] : List Addr) ∨ h0.size ≤ x_) (Or.inr (own_ale (by omega))) all0)).trans K852 (allS (P := fun x_ => x_ ∈ ([] : List Addr) ∨ h0.size ≤ x_) (Or.inr (own_ale (by omega))) all0))⟩
    · refine Gl.go (fun _ hr => zXS_icmpYes X676.here hx rfl (pc0 := 212) (pc' := 278) rfl (hb hby at_212) rfl (XT.ii_ne_t hc833) (by decide) (by decide) (zXT_lload X676.here hx rfl (hb hby at_278) rfl (zXT_lconst X676.here hx rfl (hb hby at_280) (zXT_land X676.here hx rfl (hb hby at_281) rfl (zXT_lconst X676.here hx rfl (hb hby at_282) (zXT_lcmp X676.here hx rfl (hb hby at_283) rfl hr)))))) ?_
      by_cases hc887 : (i4 &&& (1 : Int64)) = (0 : Int64)
      · refine Gl.go (fun _ hr => zXS_ifYes X676.here hx rfl (pc0 := 284) (pc' := 291) rfl (hb hby at_284) rfl (XT.ll_eq_t hc887) (by decide) (by decide) (zXS_iconst X676.here hx rfl (hb hby at_291) (zXS_istore X676.here hx rfl (hb hby at_292) rfl (l' := #[sJ i0, sS, sJ i1, sS, sJ i2, sS, sJ i3, sS, sJ i4, sS, sI i5, sJ (i0 >>> ((2 : Int32).toInt64 &&& 63)), sS, sJ (i1 &&& (9223372036854775807 : Int64)), sS, sJ (fPt i3), sS, sI md, .val (.ref b663), .val (.ref b674), sU, sI 0, sU]) rfl (zXS_iload X676.here hx rfl (hb hby at_294) rfl (zXS_ifYes X676.here hx rfl (pc0 := 296) (pc' := 312) rfl (hb hby at_296) rfl (XT.i0_eq_t (by decide)) (by decide) (by decide) (zXS_iload X676.here hx rfl (hb hby at_312) rfl (zXS_ifNo X676.here hx rfl (hb hby at_314) rfl (XT.i0_ne_f (by decide)) (zXS_iconst X676.here hx rfl (hb hby at_317) (zXS_goto X676.here hx rfl (pc0 := 318) (pc' := 322) rfl (hb hby at_318) (by decide) (by decide) (zXS_istore X676.here hx rfl (hb hby at_322) rfl (l' := #[sJ i0, sS, sJ i1, sS, sJ i2, sS, sJ i3, sS, sJ i4, sS, sI i5, sJ (i0 >>> ((2 : Int32).toInt64 &&& 63)), sS, sJ (i1 &&& (9223372036854775807 : Int64)), sS, sJ (fPt i3), sS, sI md, .val (.ref b663), .val (.ref b674), sI 1, sI 0, sU]) rfl (zXS_aload X676.here hx rfl (hb hby at_324) rfl rfl (zXS_aload X676.here hx rfl (hb hby at_326) rfl rfl hr)))))))))))) ?_
        have Fc889 := ((f665_1.ext E674).keep K676 (ninS (own_ane (by omega)) nin0))
        have Fc890 := ((f665_2.ext E674).keep K676 (ninS (own_ane (by omega)) nin0))
        have Fc891 := ((f665_3.ext E674).keep K676 (ninS (own_ane (by omega)) nin0))
        have Fc892 := ((f665_4.ext E674).keep K676 (ninS (own_ane (by omega)) nin0))
        have Fc893 := ((f665_5.ext E674).keep K676 (ninS (own_ane (by omega)) nin0))
        have zz888 : n0 ≤ T676.heap.size := by omega
        have Ec894 := ((f665_0.ext E674).keep K676)
        refine gVirtualN Gl.cl (y := (⟨"com/example/evenkeel/evenkeel/share/FlooredSum", "sameAs", "(Lcom/example/evenkeel/evenkeel/share/FlooredSum;)Z"⟩ : MethodName)) (z := (⟨"com/example/evenkeel/evenkeel/share/FlooredSum", "sameAs", "(Lcom/example/evenkeel/evenkeel/share/FlooredSum;)Z"⟩ : MethodName)) (b := b663) (argsL := [(.ref b674)]) (rest := []) (mc := 0) (ms := 0) X676 hx hZ hown (mvT hZ (hw _ (List.mem_of_getElem? (i := 22) rfl))) (mvT hZ (hw _ (List.mem_of_getElem? (i := 23) rfl))) (notFace_of_selects (args := #[]) (mvT hZ (hw _ (List.mem_of_getElem? (i := 25) rfl)))) (mvT hZ (hw _ (List.mem_of_getElem? (i := 25) rfl))) (mvT hZ (hw _ (List.mem_of_getElem? (i := 24) rfl))) (by decide) Ec894 (backOf (W := 0) (sam l Z a0 hw [] b663 b674 (-9223372036854775808 : Int64) (0 : Int64) (0 : Int64) (0 : Int64) (0 : Int64) (-9223372036854775808 : Int64) (0 : Int64) (0 : Int64) (0 : Int64) (0 : Int64) T676.heap n0 zz888 Fc889 Fc890 Fc891 Fc892 Fc893 f676_1 f676_2 f676_3 f676_4 f676_5) hZ (hw _ (List.mem_of_getElem? (i := 26) rfl)) (hw _ (List.mem_of_getElem? (i := 6) rfl)) (by decide) (by decide)) rfl (by rw [hml]; rfl) (lenOf pd_8 rfl) rfl (by show 2 * 0 + _ ≤ _; exact Nat.le_of_eq rfl) (hb hby at_328) rfl (rfl : T676.heap = T676.heap) (by decide) (by decide) ?_
        intro v888 T888 Lc888 hQ888 X888
        obtain ⟨rfl, Nq888, e888⟩ := hQ888
        have N888 := Fr.app N676 Nq888
        refine Gl.go (fun _ hr => zXS_iload X888.here hx rfl (hb hby at_331) rfl hr) ?_
        refine Gl.go (fun _ hr => zXS_icmpNo X888.here hx rfl (hb hby at_333) rfl (XT.ii_ne_f (own_same_refl _ _ _ _ _)) (zXS_aload X888.here hx rfl (hb hby at_336) rfl rfl (zXS_aload X888.here hx rfl (hb hby at_338) rfl rfl hr))) ?_
        have zz895 : n0 ≤ T676.heap.size := by omega
        refine gVirtualN Gl.cl (y := (⟨"com/example/evenkeel/evenkeel/share/FlooredSum", "sameAs", "(Lcom/example/evenkeel/evenkeel/share/FlooredSum;)Z"⟩ : MethodName)) (z := (⟨"com/example/evenkeel/evenkeel/share/FlooredSum", "sameAs", "(Lcom/example/evenkeel/evenkeel/share/FlooredSum;)Z"⟩ : MethodName)) (b := b674) (argsL := [(.ref b663)]) (rest := []) (mc := 0) (ms := 0) X888 hx hZ hown (mvT hZ (hw _ (List.mem_of_getElem? (i := 22) rfl))) (mvT hZ (hw _ (List.mem_of_getElem? (i := 23) rfl))) (notFace_of_selects (args := #[]) (mvT hZ (hw _ (List.mem_of_getElem? (i := 25) rfl)))) (mvT hZ (hw _ (List.mem_of_getElem? (i := 25) rfl))) (mvT hZ (hw _ (List.mem_of_getElem? (i := 24) rfl))) (by decide) f676_0 (backOf (W := 0) (sam l Z a0 hw [] b674 b663 (-9223372036854775808 : Int64) (0 : Int64) (0 : Int64) (0 : Int64) (0 : Int64) (-9223372036854775808 : Int64) (0 : Int64) (0 : Int64) (0 : Int64) (0 : Int64) T676.heap n0 zz895 f676_1 f676_2 f676_3 f676_4 f676_5 Fc889 Fc890 Fc891 Fc892 Fc893) hZ (hw _ (List.mem_of_getElem? (i := 26) rfl)) (hw _ (List.mem_of_getElem? (i := 6) rfl)) (by decide) (by decide)) rfl (by rw [hml]; rfl) (lenOf pd_8 rfl) rfl (by show 2 * 0 + _ ≤ _; exact Nat.le_of_eq rfl) (hb hby at_340) rfl e888 (by decide) (by decide) ?_
        intro v895 T895 Lc895 hQ895 X895
        obtain ⟨rfl, Nq895, e895⟩ := hQ895
        have N895 := Fr.app N888 Nq895
        refine Gl.go (fun _ hr => zXS_iload X895.here hx rfl (hb hby at_343) rfl hr) ?_
        refine Gl.go (fun _ hr => zXS_icmpNo X895.here hx rfl (hb hby at_345) rfl (XT.ii_ne_f (own_sym (own_same_refl _ _ _ _ _))) (zXS_aload X895.here hx rfl (hb hby at_348) rfl rfl (zXS_aload X895.here hx rfl (hb hby at_350) rfl rfl hr))) ?_
        have zz896 : n0 ≤ T676.heap.size := by omega
        refine gVirtualN Gl.cl (y := (⟨"com/example/evenkeel/evenkeel/share/FlooredSum", "sameAs", "(Lcom/example/evenkeel/evenkeel/share/FlooredSum;)Z"⟩ : MethodName)) (z := (⟨"com/example/evenkeel/evenkeel/share/FlooredSum", "sameAs", "(Lcom/example/evenkeel/evenkeel/share/FlooredSum;)Z"⟩ : MethodName)) (b := b663) (argsL := [(.ref b663)]) (rest := []) (mc := 0) (ms := 0) X895 hx hZ hown (mvT hZ (hw _ (List.mem_of_getElem? (i := 22) rfl))) (mvT hZ (hw _ (List.mem_of_getElem? (i := 23) rfl))) (notFace_of_selects (args := #[]) (mvT hZ (hw _ (List.mem_of_getElem? (i := 25) rfl)))) (mvT hZ (hw _ (List.mem_of_getElem? (i := 25) rfl))) (mvT hZ (hw _ (List.mem_of_getElem? (i := 24) rfl))) (by decide) Ec894 (backOf (W := 0) (sam l Z a0 hw [] b663 b663 (-9223372036854775808 : Int64) (0 : Int64) (0 : Int64) (0 : Int64) (0 : Int64) (-9223372036854775808 : Int64) (0 : Int64) (0 : Int64) (0 : Int64) (0 : Int64) T676.heap n0 zz896 Fc889 Fc890 Fc891 Fc892 Fc893 Fc889 Fc890 Fc891 Fc892 Fc893) hZ (hw _ (List.mem_of_getElem? (i := 26) rfl)) (hw _ (List.mem_of_getElem? (i := 6) rfl)) (by decide) (by decide)) rfl (by rw [hml]; rfl) (lenOf pd_8 rfl) rfl (by show 2 * 0 + _ ≤ _; exact Nat.le_of_eq rfl) (hb hby at_352) rfl e895 (by decide) (by decide) ?_
        intro v896 T896 Lc896 hQ896 X896
        obtain ⟨rfl, Nq896, e896⟩ := hQ896
        have N896 := Fr.app N895 Nq896
        refine Gl.go (fun _ hr => zXS_ifNo X896.here hx rfl (hb hby at_355) rfl (XT.i0_eq_f (by rw [own_same_refl]; decide)) (zXS_iconst X896.here hx rfl (hb hby at_358) (zXS_goto X896.here hx rfl (pc0 := 359) (pc' := 363) rfl (hb hby at_359) (by decide) (by decide) hr))) ?_
        obtain ⟨fs, hr, hrun, hended, hW, hsame⟩ := X896.leave (v := some (.int (1 : Int32))) (fun h => by rw [Bd.returns] at h; cases h)
        refine ⟨_, _, retN X896 hx (t := .boolean) Bd.returns (by simp) (hb hby at_363) hr, hrun, hended, _, _, rfl, ?_, ⟨⟨_, rfl⟩, hW, hsame.mono (by decide) (by decide)⟩⟩
        show Qlawrm Z i0 i1 i2 i3 i4 i5 h0 n0 _ T896.heap _
        rw [e896]
        exact ⟨rfl, N896, (((((Keep.refl h0 []).ext E663).trans K665 (allS (P := fun x_ => x_ ∈ ([] : List Addr) ∨ h0.size ≤ x_) (Or.inr (own_ale (by omega))) all0)).ext E674).trans K676 (allS (P := fun x_ => x_ ∈ ([] : List Addr) ∨ h0.size ≤ x_) (Or.inr (own_ale (by omega))) all0))⟩
      · refine Gl.go (fun _ hr => zXS_ifNo X676.here hx rfl (hb hby at_284) rfl (XT.ll_eq_f hc887) (zXS_iconst X676.here hx rfl (hb hby at_287) (zXS_goto X676.here hx rfl (pc0 := 288) (pc' := 292) rfl (hb hby at_288) (by decide) (by decide) (zXS_istore X676.here hx rfl (hb hby at_292) rfl (l' := #[sJ i0, sS, sJ i1, sS, sJ i2, sS, sJ i3, sS, sJ i4, sS, sI i5, sJ (i0 >>> ((2 : Int32).toInt64 &&& 63)), sS, sJ (i1 &&& (9223372036854775807 : Int64)), sS, sJ (fPt i3), sS, sI md, .val (.ref b663), .val (.ref b674), sU, sI 1, sU]) rfl (zXS_iload X676.here hx rfl (hb hby at_294) rfl (zXS_ifNo X676.here hx rfl (hb hby at_296) rfl (XT.i0_eq_f (by decide)) (zXS_aload X676.here hx rfl (hb hby at_299) rfl rfl (zXT_lload X676.here hx rfl (hb hby at_301) rfl (zXT_lload X676.here hx rfl (hb hby at_303) rfl (zXT_lload X676.here hx rfl (hb hby at_305) rfl (zXT_lload X676.here hx rfl (hb hby at_307) rfl hr))))))))))) ?_
        have zz897 : n0 ≤ T676.heap.size := by omega
        refine gVirtualN Gl.cl (y := (⟨"com/example/evenkeel/evenkeel/share/FlooredSum", "add", "(JJJJ)V"⟩ : MethodName)) (z := (⟨"com/example/evenkeel/evenkeel/share/FlooredSum", "add", "(JJJJ)V"⟩ : MethodName)) (b := b674) (argsL := [(.long (i0 >>> ((2 : Int32).toInt64 &&& 63))), (.long (i1 &&& (9223372036854775807 : Int64))), (.long i2), (.long (fPt i3))]) (rest := []) (mc := 0) (ms := 0) X676 hx hZ hown (mvT hZ (hw _ (List.mem_of_getElem? (i := 16) rfl))) (mvT hZ (hw _ (List.mem_of_getElem? (i := 17) rfl))) (notFace_of_selects (args := #[]) (mvT hZ (hw _ (List.mem_of_getElem? (i := 19) rfl)))) (mvT hZ (hw _ (List.mem_of_getElem? (i := 19) rfl))) (mvT hZ (hw _ (List.mem_of_getElem? (i := 18) rfl))) (by decide) f676_0 (backOf (W := 0) (addA l Z a0 hw [] b674 (i0 >>> ((2 : Int32).toInt64 &&& 63)) (i1 &&& (9223372036854775807 : Int64)) i2 (fPt i3) T676.heap n0 zz897 f676_0 (by omega) f676_1 f676_2 f676_3 f676_4 f676_5 f676_6) hZ (hw _ (List.mem_of_getElem? (i := 20) rfl)) (hw _ (List.mem_of_getElem? (i := 6) rfl)) (by decide) (by decide)) rfl (by rw [hml]; rfl) (lenOf pd_7 rfl) rfl (by show 2 * 0 + _ ≤ _; exact Nat.le_of_eq rfl) (hb hby at_309) rfl (rfl : T676.heap = T676.heap) (by decide) (by decide) ?_
        intro v897 T897 Lc897 hQ897 X897
        obtain ⟨m0_897, m1_897, m2_897, m3_897, rfl, Nq897, K897, f897_0, f897_1, f897_2, f897_3, f897_4, f897_5, f897_6, p897_eq, p897_sg⟩ := hQ897
        have z898 : T676.heap.size ≤ T897.heap.size := K897.1
        have N897 := Fr.app N676 Nq897
        have lt899 := own_alt f897_0.lt
        have lt900 := own_alt f897_1.lt
        have lt901 := own_alt f897_2.lt
        have lt902 := own_alt f897_3.lt
        have lt903 := own_alt f897_4.lt
        have lt904 := own_alt f897_5.lt
        have lt905 := own_alt f897_6.lt
        refine Gl.go (fun _ hr => zXS_iload X897.here hx rfl (hb hby at_312) rfl (zXS_ifYes X897.here hx rfl (pc0 := 314) (pc' := 321) rfl (hb hby at_314) rfl (XT.i0_ne_t (by decide)) (by decide) (by decide) (zXS_iconst X897.here hx rfl (hb hby at_321) (zXS_istore X897.here hx rfl (hb hby at_322) rfl (l' := #[sJ i0, sS, sJ i1, sS, sJ i2, sS, sJ i3, sS, sJ i4, sS, sI i5, sJ (i0 >>> ((2 : Int32).toInt64 &&& 63)), sS, sJ (i1 &&& (9223372036854775807 : Int64)), sS, sJ (fPt i3), sS, sI md, .val (.ref b663), .val (.ref b674), sI 0, sI 1, sU]) rfl (zXS_aload X897.here hx rfl (hb hby at_324) rfl rfl (zXS_aload X897.here hx rfl (hb hby at_326) rfl rfl hr)))))) ?_
        have Fc907 := (((f665_1.ext E674).keep K676 (ninS (own_ane (by omega)) nin0)).keep K897 (ninS (own_ane (by omega)) nin0))
        have Fc908 := (((f665_2.ext E674).keep K676 (ninS (own_ane (by omega)) nin0)).keep K897 (ninS (own_ane (by omega)) nin0))
        have Fc909 := (((f665_3.ext E674).keep K676 (ninS (own_ane (by omega)) nin0)).keep K897 (ninS (own_ane (by omega)) nin0))
        have Fc910 := (((f665_4.ext E674).keep K676 (ninS (own_ane (by omega)) nin0)).keep K897 (ninS (own_ane (by omega)) nin0))
        have Fc911 := (((f665_5.ext E674).keep K676 (ninS (own_ane (by omega)) nin0)).keep K897 (ninS (own_ane (by omega)) nin0))
        have zz906 : n0 ≤ T897.heap.size := by omega
        have Ec912 := (((f665_0.ext E674).keep K676).keep K897)
        refine gVirtualN Gl.cl (y := (⟨"com/example/evenkeel/evenkeel/share/FlooredSum", "sameAs", "(Lcom/example/evenkeel/evenkeel/share/FlooredSum;)Z"⟩ : MethodName)) (z := (⟨"com/example/evenkeel/evenkeel/share/FlooredSum", "sameAs", "(Lcom/example/evenkeel/evenkeel/share/FlooredSum;)Z"⟩ : MethodName)) (b := b663) (argsL := [(.ref b674)]) (rest := []) (mc := 0) (ms := 0) X897 hx hZ hown (mvT hZ (hw _ (List.mem_of_getElem? (i := 22) rfl))) (mvT hZ (hw _ (List.mem_of_getElem? (i := 23) rfl))) (notFace_of_selects (args := #[]) (mvT hZ (hw _ (List.mem_of_getElem? (i := 25) rfl)))) (mvT hZ (hw _ (List.mem_of_getElem? (i := 25) rfl))) (mvT hZ (hw _ (List.mem_of_getElem? (i := 24) rfl))) (by decide) Ec912 (backOf (W := 0) (sam l Z a0 hw [] b663 b674 (-9223372036854775808 : Int64) (0 : Int64) (0 : Int64) (0 : Int64) (0 : Int64) (fPt i3) m0_897 m1_897 m2_897 m3_897 T897.heap n0 zz906 Fc907 Fc908 Fc909 Fc910 Fc911 f897_1 f897_2 f897_3 f897_4 f897_5) hZ (hw _ (List.mem_of_getElem? (i := 26) rfl)) (hw _ (List.mem_of_getElem? (i := 6) rfl)) (by decide) (by decide)) rfl (by rw [hml]; rfl) (lenOf pd_8 rfl) rfl (by show 2 * 0 + _ ≤ _; exact Nat.le_of_eq rfl) (hb hby at_328) rfl (rfl : T897.heap = T897.heap) (by decide) (by decide) ?_
        intro v906 T906 Lc906 hQ906 X906
        obtain ⟨rfl, Nq906, e906⟩ := hQ906
        have N906 := Fr.app N897 Nq906
        refine Gl.go (fun _ hr => zXS_iload X906.here hx rfl (hb hby at_331) rfl hr) ?_
        refine Gl.go (fun _ hr => zXS_icmpNo X906.here hx rfl (hb hby at_333) rfl (XT.ii_ne_f (own_same_pt (fun q => fPt_ne _ q.symm))) (zXS_aload X906.here hx rfl (hb hby at_336) rfl rfl (zXS_aload X906.here hx rfl (hb hby at_338) rfl rfl hr))) ?_
        have zz913 : n0 ≤ T897.heap.size := by omega
        refine gVirtualN Gl.cl (y := (⟨"com/example/evenkeel/evenkeel/share/FlooredSum", "sameAs", "(Lcom/example/evenkeel/evenkeel/share/FlooredSum;)Z"⟩ : MethodName)) (z := (⟨"com/example/evenkeel/evenkeel/share/FlooredSum", "sameAs", "(Lcom/example/evenkeel/evenkeel/share/FlooredSum;)Z"⟩ : MethodName)) (b := b674) (argsL := [(.ref b663)]) (rest := []) (mc := 0) (ms := 0) X906 hx hZ hown (mvT hZ (hw _ (List.mem_of_getElem? (i := 22) rfl))) (mvT hZ (hw _ (List.mem_of_getElem? (i := 23) rfl))) (notFace_of_selects (args := #[]) (mvT hZ (hw _ (List.mem_of_getElem? (i := 25) rfl)))) (mvT hZ (hw _ (List.mem_of_getElem? (i := 25) rfl))) (mvT hZ (hw _ (List.mem_of_getElem? (i := 24) rfl))) (by decide) f897_0 (backOf (W := 0) (sam l Z a0 hw [] b674 b663 (fPt i3) m0_897 m1_897 m2_897 m3_897 (-9223372036854775808 : Int64) (0 : Int64) (0 : Int64) (0 : Int64) (0 : Int64) T897.heap n0 zz913 f897_1 f897_2 f897_3 f897_4 f897_5 Fc907 Fc908 Fc909 Fc910 Fc911) hZ (hw _ (List.mem_of_getElem? (i := 26) rfl)) (hw _ (List.mem_of_getElem? (i := 6) rfl)) (by decide) (by decide)) rfl (by rw [hml]; rfl) (lenOf pd_8 rfl) rfl (by show 2 * 0 + _ ≤ _; exact Nat.le_of_eq rfl) (hb hby at_340) rfl e906 (by decide) (by decide) ?_
        intro v913 T913 Lc913 hQ913 X913
        obtain ⟨rfl, Nq913, e913⟩ := hQ913
        have N913 := Fr.app N906 Nq913
        refine Gl.go (fun _ hr => zXS_iload X913.here hx rfl (hb hby at_343) rfl hr) ?_
        refine Gl.go (fun _ hr => zXS_icmpNo X913.here hx rfl (hb hby at_345) rfl (XT.ii_ne_f (own_sym (own_same_pt (fun q => fPt_ne _ q.symm)))) (zXS_aload X913.here hx rfl (hb hby at_348) rfl rfl (zXS_aload X913.here hx rfl (hb hby at_350) rfl rfl hr))) ?_
        have zz914 : n0 ≤ T897.heap.size := by omega
        refine gVirtualN Gl.cl (y := (⟨"com/example/evenkeel/evenkeel/share/FlooredSum", "sameAs", "(Lcom/example/evenkeel/evenkeel/share/FlooredSum;)Z"⟩ : MethodName)) (z := (⟨"com/example/evenkeel/evenkeel/share/FlooredSum", "sameAs", "(Lcom/example/evenkeel/evenkeel/share/FlooredSum;)Z"⟩ : MethodName)) (b := b663) (argsL := [(.ref b663)]) (rest := []) (mc := 0) (ms := 0) X913 hx hZ hown (mvT hZ (hw _ (List.mem_of_getElem? (i := 22) rfl))) (mvT hZ (hw _ (List.mem_of_getElem? (i := 23) rfl))) (notFace_of_selects (args := #[]) (mvT hZ (hw _ (List.mem_of_getElem? (i := 25) rfl)))) (mvT hZ (hw _ (List.mem_of_getElem? (i := 25) rfl))) (mvT hZ (hw _ (List.mem_of_getElem? (i := 24) rfl))) (by decide) Ec912 (backOf (W := 0) (sam l Z a0 hw [] b663 b663 (-9223372036854775808 : Int64) (0 : Int64) (0 : Int64) (0 : Int64) (0 : Int64) (-9223372036854775808 : Int64) (0 : Int64) (0 : Int64) (0 : Int64) (0 : Int64) T897.heap n0 zz914 Fc907 Fc908 Fc909 Fc910 Fc911 Fc907 Fc908 Fc909 Fc910 Fc911) hZ (hw _ (List.mem_of_getElem? (i := 26) rfl)) (hw _ (List.mem_of_getElem? (i := 6) rfl)) (by decide) (by decide)) rfl (by rw [hml]; rfl) (lenOf pd_8 rfl) rfl (by show 2 * 0 + _ ≤ _; exact Nat.le_of_eq rfl) (hb hby at_352) rfl e913 (by decide) (by decide) ?_
        intro v914 T914 Lc914 hQ914 X914
        obtain ⟨rfl, Nq914, e914⟩ := hQ914
        have N914 := Fr.app N913 Nq914
        refine Gl.go (fun _ hr => zXS_ifNo X914.here hx rfl (hb hby at_355) rfl (XT.i0_eq_f (by rw [own_same_refl]; decide)) (zXS_iconst X914.here hx rfl (hb hby at_358) (zXS_goto X914.here hx rfl (pc0 := 359) (pc' := 363) rfl (hb hby at_359) (by decide) (by decide) hr))) ?_
        obtain ⟨fs, hr, hrun, hended, hW, hsame⟩ := X914.leave (v := some (.int (1 : Int32))) (fun h => by rw [Bd.returns] at h; cases h)
        refine ⟨_, _, retN X914 hx (t := .boolean) Bd.returns (by simp) (hb hby at_363) hr, hrun, hended, _, _, rfl, ?_, ⟨⟨_, rfl⟩, hW, hsame.mono (by decide) (by decide)⟩⟩
        show Qlawrm Z i0 i1 i2 i3 i4 i5 h0 n0 _ T914.heap _
        rw [e914]
        exact ⟨rfl, N914, ((((((Keep.refl h0 []).ext E663).trans K665 (allS (P := fun x_ => x_ ∈ ([] : List Addr) ∨ h0.size ≤ x_) (Or.inr (own_ale (by omega))) all0)).ext E674).trans K676 (allS (P := fun x_ => x_ ∈ ([] : List Addr) ∨ h0.size ≤ x_) (Or.inr (own_ale (by omega))) all0)).trans K897 (allS (P := fun x_ => x_ ∈ ([] : List Addr) ∨ h0.size ≤ x_) (Or.inr (own_ale (by omega))) all0))⟩
set_option maxRecDepth 65536 in
set_option maxHeartbeats 40000000 in
theorem comes_1 {Post : Tables → Env → Array Value → State → Outcome → State → Prop} (hpost : ∀ tb e args s v u, (limb_1_1.after args s (.returned v) u = true ∧ limb_1_2.after args s (.returned v) u = true ∧ True) → FrameEnd s (.returned v) u (Jvm.fieldLocs frame_1_writes args s ++ Jvm.arrayLocs frame_1_arrays args s ++ Jvm.staticLocs frame_1_statics s) 16 128 → Post tb e args s (.returned v) u) :
    ArmFor flags0 classFile x code maxLocals ret World_1 tables_1 room_1 Calls_1 rest_1 Pre_1 Post := by
  intro l hfl _ _ p e ha hc hk s m args below hf hA hF happ hP
  obtain ⟨hcalls, hrest, hpre⟩ := hP
  obtain ⟨-, -, -, hnamed, -, -, -, hat⟩ := (Spec.applies_iff hf).mp happ
  obtain ⟨hg, hn⟩ := and_e (Cond.before_iff.mp (show (Jvm.Cond.and given_1 narrow_1).before args s = true from hpre))
  obtain ⟨hcount, hgs⟩ := and_e hg
  obtain ⟨w0, w1, w2, w3, w4, w5, rfl⟩ : ∃ w0 w1 w2 w3 w4 w5 : Value, args = #[w0, w1, w2, w3, w4, w5] := by
    have hs : args.size = 6 := by simpa [Cond.value, given_1] using hcount
    obtain ⟨L⟩ := args
    match L, hs with
    | [w0, w1, w2, w3, w4, w5], _ => exact ⟨w0, w1, w2, w3, w4, w5, rfl⟩
  obtain ⟨ha0, hr0⟩ := and_e hgs
  obtain ⟨i0, ei0⟩ := isL_v ha0
  obtain rfl : w0 = (.long i0) := Option.some.inj ei0
  obtain ⟨ha1, hr1⟩ := and_e hr0
  obtain ⟨i1, ei1⟩ := isL_v ha1
  obtain rfl : w1 = (.long i1) := Option.some.inj ei1
  obtain ⟨ha2, hr2⟩ := and_e hr1
  obtain ⟨i2, ei2⟩ := isL_v ha2
  obtain rfl : w2 = (.long i2) := Option.some.inj ei2
  obtain ⟨ha3, hr3⟩ := and_e hr2
  obtain ⟨i3, ei3⟩ := isL_v ha3
  obtain rfl : w3 = (.long i3) := Option.some.inj ei3
  obtain ⟨ha4, hr4⟩ := and_e hr3
  obtain ⟨i4, ei4⟩ := isL_v ha4
  obtain rfl : w4 = (.long i4) := Option.some.inj ei4
  obtain ⟨i5, ei5⟩ := is_v hr4
  obtain rfl : w5 = (.int i5) := Option.some.inj ei5
  have hw := fun d (hd : d ∈ tables_1) => atoms_spec (ws := Jvm.Cond.code x code maxLocals ret :: tables_1) hat d (List.mem_cons_of_mem _ hd)
  have hfit : Fit s := fun {y c} hc i hi => by
    obtain ⟨ha, rfl⟩ := Array.getElem?_eq_some_iff.mp hc
    have q := List.all_eq_true.mp ((Array.all_eq_true_iff_forall_mem.mp hF) _ (Array.getElem_mem ha)) i (List.mem_range.mpr hi)
    simpa [Array.getElem?_eq_getElem hi] using q
  obtain ⟨n, o, h1, h2, h3, _, L, rfl, ⟨rfl, N, -⟩, hq⟩ := lawrm l s _ hw tables_1 i0 i1 i2 i3 i4 i5 s.heap s.heap.size (Nat.le_refl _)  p e ha hc hk s m _ below hf ((Spec.applies_iff_loose hf).mp happ).1 ⟨rfl, State.Warmed39.refl s, rfl⟩ trivial
  refine ⟨n, _, h1, h2, h3, hpost _ _ _ _ _ _ ⟨Cond.after_iff.mpr rfl, Cond.after_iff.mpr (eq_i res_at (Term.int_eval (1)) rfl), trivial⟩ ⟨hq.1, hq.2.1, (hq.2.2.sift fun y hy => Or.inr (N y hy)).mono (by decide) (by decide)⟩⟩
theorem main_1_1 : Claimed_1_1 := comes_1 fun _ _ _ _ _ _ h hF => ⟨h.1, hF⟩
theorem main_1_2 : Claimed_1_2 := comes_1 fun _ _ _ _ _ _ h hF => ⟨h.2.1, hF⟩
end Jvm.Pilot.@@N@@
namespace Jvm.Pilot.@@N@@
open Jvm Jvm.ClassFile Sem Op Lib Jvm.Free Jvm.Stand Jvm.Pilot.@@N@@.Jvm.D
/-! MADE BY PROGRAM (witnessworld.py) out of the Statement's table words and the real class files: 16 classes; the members and pool entries that the words name. The judged class is class 1, her method 1. -/
namespace start1
open Jvm.ClassFile
def u (s : String) : CpInfo := .utf8 (stringToUtf16 s)
/-- a pool by its gaps: so many unusable entries, then the entry; so many at the end -/
def gap : Nat → List CpInfo → List CpInfo
  | 0, r => r
  | n + 1, r => .unusable :: gap n r
def poolList (es : List (Nat × CpInfo)) (last : Nat) : List CpInfo := es.foldr (fun e r => gap e.1 (e.2 :: r)) (gap last [])
def pool (es : List (Nat × CpInfo)) (last : Nat) : Array CpInfo := ⟨poolList es last⟩
def fileOf (pool : Array CpInfo) (this : Nat) (attrs : Array Attribute := #[]) (ms : Array MethodInfo := #[]) (fl : Nat := 33) (sup : Nat := 0) (ifs : Array Nat := #[]) (fds : Array FieldInfo := #[]) : ClassFile where
  minorVersion := 0
  majorVersion := 65
  constantPool := pool
  accessFlags := fl
  thisClass := this
  superClass := sup
  interfaces := ifs
  fields := fds
  methods := ms
  attributes := attrs
def plain (name : String) (sup : Option ClassId) : Class where
  name := name
  kind := .ordinary
  loader := none
  accessFlags := 33
  super := sup
  interfaces := #[]
  cf := none
  fields := #[]
  methods := #[]
  instanceTypes := #[]
  staticTypes := #[]
  resolved := #[]
  callSites := []
  init := .initialized
  statics := none
  mirror := none

def pool0 : Array CpInfo := pool [(5, u "<init>"), (0, u "()V"), (1, .class_ 10), (1, u "java/lang/Object")] 113

def k0c0 : Code := { maxStack := 0, maxLocals := 1, code := object_method_1_code, exceptionTable := #[], attributes := #[] }
def k0m0 : Method := { name := "<init>", desc := "()V", sig := { parameters := [], returnType := none }, accessFlags := 1, code := some k0c0 }
/-- java/lang/Object -/
def k0 : Class := { plain "java/lang/Object" none with
  accessFlags := 33
  interfaces := #[]
  cf := some (fileOf pool0 8 #[] #[{ accessFlags := 1, nameIndex := 5, descriptorIndex := 6, attributes := #[] }] 33 0 #[] #[])
  fields := #[]
  methods := #[k0m0]
  instanceTypes := #[]
  staticTypes := #[]
  resolved := Array.replicate 124 none
  statics := none }

def pool1 : Array CpInfo := pool [(2, .class_ 4), (0, .nameAndType 5 6), (0, u "java/lang/Object"), (0, u "<init>"), (0, u "()V"), (2, .long 9223372036854775807), (1, .long 9223372036854775808), (1, .long 9223372036854775809), (1, .long 9223372036854775680), (1, .integer 2147483647), (0, .class_ 19), (0, u "com/example/evenkeel/evenkeel/share/FlooredSum"), (0, .methodref 18 3), (0, .methodref 18 22), (0, .nameAndType 23 24), (0, u "add"), (0, u "(JJJJ)V"), (0, .long 64), (1, .long 2), (1, .long 127), (1, .methodref 18 32), (0, .nameAndType 33 34), (0, u "sameAs"), (0, u "(Lcom/example/evenkeel/evenkeel/share/FlooredSum;)Z"), (0, .class_ 36), (0, u "com/example/evenkeel/evenkeel/share/FlooredSumSameAsPinLaw"), (2, u "law"), (0, u "(JJJJJI)Z")] 3

def k1m0 : Method := { name := "<init>", desc := "()V", sig := { parameters := [], returnType := none }, accessFlags := 1, code := none }
def k1c1 : Code := { maxStack := 11, maxLocals := 23, code := code, exceptionTable := #[], attributes := #[] }
def k1m1 : Method := { name := "law", desc := "(JJJJJI)Z", sig := { parameters := [.long, .long, .long, .long, .long, .int], returnType := some .boolean }, accessFlags := 9, code := some k1c1 }
/-- com/example/evenkeel/evenkeel/share/FlooredSumSameAsPinLaw -/
def k1 : Class := { plain "com/example/evenkeel/evenkeel/share/FlooredSumSameAsPinLaw" (some 0) with
  accessFlags := 49
  interfaces := #[]
  cf := some (fileOf pool1 35 #[] #[{ accessFlags := 1, nameIndex := 5, descriptorIndex := 6, attributes := #[] }, { accessFlags := 9, nameIndex := 39, descriptorIndex := 40, attributes := #[] }] 49 2 #[] #[])
  fields := #[]
  methods := #[k1m0, k1m1]
  instanceTypes := #[]
  staticTypes := #[]
  resolved := Array.replicate 44 none
  statics := none }

def pool2 : Array CpInfo := pool [(1, .class_ 2), (0, u "java/lang/Long"), (0, .methodref 4 5), (0, .class_ 6), (0, .nameAndType 7 8), (0, u "java/lang/Object"), (0, u "<init>"), (0, u "()V"), (0, .class_ 10), (0, u "com/example/evenkeel/evenkeel/share/FlooredSum"), (0, .long 9223372036854775808), (1, .fieldref 9 14), (0, .nameAndType 15 16), (0, u "point"), (0, u "J"), (5, .fieldref 9 23), (0, .nameAndType 24 16), (0, u "limb0"), (0, .fieldref 9 26), (0, .nameAndType 27 16), (0, u "limb1"), (0, .fieldref 9 29), (0, .nameAndType 30 16), (0, u "limb2"), (0, .fieldref 9 32), (0, .nameAndType 33 16), (0, u "limb3"), (0, .fieldref 9 35), (0, .nameAndType 36 37), (0, u "known"), (0, u "Z"), (2, u "units"), (0, u "D"), (6, .long 63), (18, .methodref 68 69), (0, .class_ 70), (0, .nameAndType 71 72), (0, u "java/lang/Math"), (0, u "abs"), (0, u "(J)J"), (0, .methodref 9 74), (0, .nameAndType 75 76), (0, u "unsignedMultiplyHigh"), (0, u "(JJ)J"), (0, .methodref 68 78), (0, .nameAndType 79 76), (0, u "multiplyHigh"), (0, .methodref 1 81), (0, .nameAndType 82 83), (0, u "compareUnsigned"), (0, u "(JJ)I"), (0, .methodref 1 85), (0, .nameAndType 86 87), (0, u "numberOfLeadingZeros"), (0, u "(J)I"), (5, .methodref 9 94), (0, .nameAndType 95 96), (0, u "placed"), (0, u "(IIJJJJ)J"), (0, .long 18446744073709551615), (21, u "NO_POINT"), (1, u "BITS"), (0, u "I"), (6, u "sameAs"), (0, u "(Lcom/example/evenkeel/evenkeel/share/FlooredSum;)Z"), (2, u "add"), (0, u "(JJJJ)V")] 19

def k2c0 : Code := { maxStack := 3, maxLocals := 1, code := prog_96_method_1_code, exceptionTable := #[], attributes := #[] }
def k2m0 : Method := { name := "<init>", desc := "()V", sig := { parameters := [], returnType := none }, accessFlags := 0, code := some k2c0 }
def k2c1 : Code := { maxStack := 4, maxLocals := 2, code := prog_96_method_5_code, exceptionTable := #[], attributes := #[] }
def k2m1 : Method := { name := "sameAs", desc := "(Lcom/example/evenkeel/evenkeel/share/FlooredSum;)Z", sig := { parameters := [(.object "com/example/evenkeel/evenkeel/share/FlooredSum")], returnType := some .boolean }, accessFlags := 0, code := some k2c1 }
def k2c2 : Code := { maxStack := 2, maxLocals := 10, code := prog_96_method_9_code, exceptionTable := #[], attributes := #[] }
def k2m2 : Method := { name := "placed", desc := "(IIJJJJ)J", sig := { parameters := [.int, .int, .long, .long, .long, .long], returnType := some .long }, accessFlags := 10, code := some k2c2 }
def k2c3 : Code := { maxStack := 10, maxLocals := 57, code := prog_96_method_10_code, exceptionTable := #[], attributes := #[] }
def k2m3 : Method := { name := "add", desc := "(JJJJ)V", sig := { parameters := [.long, .long, .long, .long], returnType := none }, accessFlags := 0, code := some k2c3 }
def k2c4 : Code := { maxStack := 6, maxLocals := 4, code := prog_96_method_15_code, exceptionTable := #[], attributes := #[] }
def k2m4 : Method := { name := "unsignedMultiplyHigh", desc := "(JJ)J", sig := { parameters := [.long, .long], returnType := some .long }, accessFlags := 8, code := some k2c4 }
/-- com/example/evenkeel/evenkeel/share/FlooredSum -/
def k2 : Class := { plain "com/example/evenkeel/evenkeel/share/FlooredSum" (some 0) with
  accessFlags := 48
  interfaces := #[]
  cf := some (fileOf pool2 9 #[] #[{ accessFlags := 0, nameIndex := 7, descriptorIndex := 8, attributes := #[] }, { accessFlags := 0, nameIndex := 129, descriptorIndex := 130, attributes := #[] }, { accessFlags := 10, nameIndex := 95, descriptorIndex := 96, attributes := #[] }, { accessFlags := 0, nameIndex := 133, descriptorIndex := 134, attributes := #[] }, { accessFlags := 8, nameIndex := 75, descriptorIndex := 76, attributes := #[] }] 48 4 #[] #[{ accessFlags := 26, nameIndex := 119, descriptorIndex := 16, attributes := #[] }, { accessFlags := 26, nameIndex := 121, descriptorIndex := 122, attributes := #[] }, { accessFlags := 2, nameIndex := 24, descriptorIndex := 16, attributes := #[] }, { accessFlags := 2, nameIndex := 27, descriptorIndex := 16, attributes := #[] }, { accessFlags := 2, nameIndex := 30, descriptorIndex := 16, attributes := #[] }, { accessFlags := 2, nameIndex := 33, descriptorIndex := 16, attributes := #[] }, { accessFlags := 2, nameIndex := 15, descriptorIndex := 16, attributes := #[] }, { accessFlags := 2, nameIndex := 36, descriptorIndex := 37, attributes := #[] }, { accessFlags := 2, nameIndex := 40, descriptorIndex := 41, attributes := #[] }])
  fields := #[{ name := "NO_POINT", type := .long, accessFlags := 26, slot := 0, constantValue := 0 }, { name := "BITS", type := .int, accessFlags := 26, slot := 1, constantValue := 0 }, { name := "limb0", type := .long, accessFlags := 2, slot := 0, constantValue := 0 }, { name := "limb1", type := .long, accessFlags := 2, slot := 1, constantValue := 0 }, { name := "limb2", type := .long, accessFlags := 2, slot := 2, constantValue := 0 }, { name := "limb3", type := .long, accessFlags := 2, slot := 3, constantValue := 0 }, { name := "point", type := .long, accessFlags := 2, slot := 4, constantValue := 0 }, { name := "known", type := .boolean, accessFlags := 2, slot := 5, constantValue := 0 }, { name := "units", type := .double, accessFlags := 2, slot := 6, constantValue := 0 }]
  methods := #[k2m0, k2m1, k2m2, k2m3, k2m4]
  instanceTypes := #[.long, .long, .long, .long, .long, .boolean, .double]
  staticTypes := #[.long, .int]
  resolved := Array.replicate 154 none
  statics := none }

def pool3 : Array CpInfo := pool [(1, .class_ 2), (0, u "java/lang/Math"), (1, .class_ 6), (1, u "java/lang/Object"), (0, u "<init>"), (0, u "()V"), (89, .class_ 100), (1, u "java/lang/Math$RandomNumberGeneratorHolder"), (20, u "(JJ)J"), (2, u "abs"), (0, u "(J)J"), (12, .long 4294967295), (3, u "multiplyHigh"), (29, u "negativeZeroFloatBits"), (0, u "J"), (2, u "negativeZeroDoubleBits"), (68, u "$assertionsDisabled"), (0, u "Z"), (91, u "twoToTheDoubleScaleDown"), (0, u "D"), (4, u "twoToTheDoubleScaleUp"), (9, u "E"), (3, u "PI"), (2, u "TAU"), (2, u "DEGREES_TO_RADIANS"), (0, u "RADIANS_TO_DEGREES")] 94

def k3m0 : Method := { name := "<init>", desc := "()V", sig := { parameters := [], returnType := none }, accessFlags := 2, code := none }
def k3c1 : Code := { maxStack := 6, maxLocals := 20, code := jdk_29_method_45_code, exceptionTable := #[], attributes := #[] }
def k3m1 : Method := { name := "multiplyHigh", desc := "(JJ)J", sig := { parameters := [.long, .long], returnType := some .long }, accessFlags := 9, code := some k3c1 }
def k3c2 : Code := { maxStack := 4, maxLocals := 2, code := jdk_29_method_61_code, exceptionTable := #[], attributes := #[] }
def k3m2 : Method := { name := "abs", desc := "(J)J", sig := { parameters := [.long], returnType := some .long }, accessFlags := 9, code := some k3c2 }
/-- java/lang/Math -/
def k3 : Class := { plain "java/lang/Math" (some 0) with
  accessFlags := 49
  interfaces := #[]
  cf := some (fileOf pool3 1 #[.nestMembers #[98]] #[{ accessFlags := 2, nameIndex := 7, descriptorIndex := 8, attributes := #[] }, { accessFlags := 9, nameIndex := 142, descriptorIndex := 121, attributes := #[] }, { accessFlags := 9, nameIndex := 124, descriptorIndex := 125, attributes := #[] }] 49 4 #[] #[{ accessFlags := 25, nameIndex := 354, descriptorIndex := 339, attributes := #[] }, { accessFlags := 25, nameIndex := 358, descriptorIndex := 339, attributes := #[] }, { accessFlags := 25, nameIndex := 361, descriptorIndex := 339, attributes := #[] }, { accessFlags := 26, nameIndex := 364, descriptorIndex := 339, attributes := #[] }, { accessFlags := 26, nameIndex := 365, descriptorIndex := 339, attributes := #[] }, { accessFlags := 26, nameIndex := 172, descriptorIndex := 173, attributes := #[] }, { accessFlags := 26, nameIndex := 176, descriptorIndex := 173, attributes := #[] }, { accessFlags := 8, nameIndex := 344, descriptorIndex := 339, attributes := #[] }, { accessFlags := 8, nameIndex := 338, descriptorIndex := 339, attributes := #[] }, { accessFlags := 4120, nameIndex := 245, descriptorIndex := 246, attributes := #[] }])
  fields := #[{ name := "E", type := .double, accessFlags := 25, slot := 0, constantValue := 0 }, { name := "PI", type := .double, accessFlags := 25, slot := 1, constantValue := 0 }, { name := "TAU", type := .double, accessFlags := 25, slot := 2, constantValue := 0 }, { name := "DEGREES_TO_RADIANS", type := .double, accessFlags := 26, slot := 3, constantValue := 0 }, { name := "RADIANS_TO_DEGREES", type := .double, accessFlags := 26, slot := 4, constantValue := 0 }, { name := "negativeZeroFloatBits", type := .long, accessFlags := 26, slot := 5, constantValue := 0 }, { name := "negativeZeroDoubleBits", type := .long, accessFlags := 26, slot := 6, constantValue := 0 }, { name := "twoToTheDoubleScaleUp", type := .double, accessFlags := 8, slot := 7, constantValue := 0 }, { name := "twoToTheDoubleScaleDown", type := .double, accessFlags := 8, slot := 8, constantValue := 0 }, { name := "$assertionsDisabled", type := .boolean, accessFlags := 4120, slot := 9, constantValue := 0 }]
  methods := #[k3m0, k3m1, k3m2]
  instanceTypes := #[]
  staticTypes := #[.double, .double, .double, .double, .double, .long, .long, .double, .double, .boolean]
  resolved := Array.replicate 460 none
  statics := none }

def pool4 : Array CpInfo := pool [(1, .class_ 2), (0, u "java/io/Serializable"), (0, .class_ 4), (0, u "java/lang/Object")] 2

/-- java/io/Serializable -/
def k4 : Class := { plain "java/io/Serializable" (some 0) with
  accessFlags := 1537
  interfaces := #[]
  cf := some (fileOf pool4 1 #[] #[] 1537 3 #[] #[])
  fields := #[]
  methods := #[]
  instanceTypes := #[]
  staticTypes := #[]
  resolved := Array.replicate 7 none
  statics := none }

def pool5 : Array CpInfo := pool [(2, .class_ 4), (1, u "java/lang/Object"), (0, u "<init>"), (0, u "()V"), (1, .class_ 10), (1, u "java/lang/Number"), (2, .class_ 14), (0, u "java/io/Serializable"), (0, u "serialVersionUID"), (0, u "J")] 20

def k5m0 : Method := { name := "<init>", desc := "()V", sig := { parameters := [], returnType := none }, accessFlags := 1, code := none }
/-- java/lang/Number -/
def k5 : Class := { plain "java/lang/Number" (some 0) with
  accessFlags := 1057
  interfaces := #[4]
  cf := some (fileOf pool5 8 #[] #[{ accessFlags := 1, nameIndex := 5, descriptorIndex := 6, attributes := #[] }] 1057 2 #[13] #[{ accessFlags := 26, nameIndex := 15, descriptorIndex := 16, attributes := #[] }])
  fields := #[{ name := "serialVersionUID", type := .long, accessFlags := 26, slot := 0, constantValue := 0 }]
  methods := #[k5m0]
  instanceTypes := #[]
  staticTypes := #[.long]
  resolved := Array.replicate 37 none
  statics := none }

def pool6 : Array CpInfo := pool [(1, .class_ 2), (0, u "java/lang/Comparable"), (0, .class_ 4), (0, u "java/lang/Object")] 7

/-- java/lang/Comparable -/
def k6 : Class := { plain "java/lang/Comparable" (some 0) with
  accessFlags := 1537
  interfaces := #[]
  cf := some (fileOf pool6 1 #[] #[] 1537 3 #[] #[])
  fields := #[]
  methods := #[]
  instanceTypes := #[]
  staticTypes := #[]
  resolved := Array.replicate 12 none
  statics := none }

def pool7 : Array CpInfo := pool [(1, .class_ 2), (0, u "java/lang/constant/Constable"), (0, .class_ 4), (0, u "java/lang/Object")] 6

/-- java/lang/constant/Constable -/
def k7 : Class := { plain "java/lang/constant/Constable" (some 0) with
  accessFlags := 1537
  interfaces := #[]
  cf := some (fileOf pool7 1 #[] #[] 1537 3 #[] #[])
  fields := #[]
  methods := #[]
  instanceTypes := #[]
  staticTypes := #[]
  resolved := Array.replicate 11 none
  statics := none }

def pool8 : Array CpInfo := pool [(1, .class_ 2), (0, u "java/lang/constant/ConstantDesc"), (0, .class_ 4), (0, u "java/lang/Object")] 32

/-- java/lang/constant/ConstantDesc -/
def k8 : Class := { plain "java/lang/constant/ConstantDesc" (some 0) with
  accessFlags := 1537
  interfaces := #[]
  cf := some (fileOf pool8 1 #[] #[] 1537 3 #[] #[])
  fields := #[]
  methods := #[]
  instanceTypes := #[]
  staticTypes := #[]
  resolved := Array.replicate 37 none
  statics := none }

def pool9 : Array CpInfo := pool [(1, .class_ 2), (0, u "java/lang/Long"), (15, .class_ 20), (1, u "java/lang/Integer"), (79, u "numberOfLeadingZeros"), (0, u "(J)I"), (66, .long 9223372036854775808), (66, .class_ 237), (1, u "java/lang/Long$LongCache"), (33, .class_ 272), (0, u "java/lang/Number"), (2, u "value"), (0, u "J"), (25, .methodref 1 303), (0, .nameAndType 304 305), (0, u "compare"), (0, u "(JJ)I"), (2, .methodref 18 309), (0, .nameAndType 100 310), (0, u "(I)I"), (50, u "TYPE"), (0, u "Ljava/lang/Class;"), (0, .class_ 364), (0, u "java/lang/Comparable"), (0, .class_ 366), (0, u "java/lang/constant/Constable"), (0, .class_ 368), (0, u "java/lang/constant/ConstantDesc"), (0, u "MIN_VALUE"), (1, u "MAX_VALUE"), (4, u "SIZE"), (0, u "I"), (1, u "BYTES"), (1, u "serialVersionUID"), (87, u "compareUnsigned")] 54

def k9c0 : Code := { maxStack := 4, maxLocals := 4, code := jdk_35_method_42_code, exceptionTable := #[], attributes := #[] }
def k9m0 : Method := { name := "compare", desc := "(JJ)I", sig := { parameters := [.long, .long], returnType := some .int }, accessFlags := 9, code := some k9c0 }
def k9c1 : Code := { maxStack := 6, maxLocals := 4, code := jdk_35_method_43_code, exceptionTable := #[], attributes := #[] }
def k9m1 : Method := { name := "compareUnsigned", desc := "(JJ)I", sig := { parameters := [.long, .long], returnType := some .int }, accessFlags := 9, code := some k9c1 }
def k9c2 : Code := { maxStack := 3, maxLocals := 3, code := jdk_35_method_48_code, exceptionTable := #[], attributes := #[] }
def k9m2 : Method := { name := "numberOfLeadingZeros", desc := "(J)I", sig := { parameters := [.long], returnType := some .int }, accessFlags := 9, code := some k9c2 }
/-- java/lang/Long -/
def k9 : Class := { plain "java/lang/Long" (some 5) with
  accessFlags := 49
  interfaces := #[6, 7, 8]
  cf := some (fileOf pool9 1 #[.nestMembers #[235]] #[{ accessFlags := 9, nameIndex := 304, descriptorIndex := 305, attributes := #[] }, { accessFlags := 9, nameIndex := 469, descriptorIndex := 305, attributes := #[] }, { accessFlags := 9, nameIndex := 100, descriptorIndex := 101, attributes := #[] }] 49 271 #[363, 365, 367] #[{ accessFlags := 25, nameIndex := 369, descriptorIndex := 276, attributes := #[] }, { accessFlags := 25, nameIndex := 371, descriptorIndex := 276, attributes := #[] }, { accessFlags := 25, nameIndex := 361, descriptorIndex := 362, attributes := #[] }, { accessFlags := 18, nameIndex := 275, descriptorIndex := 276, attributes := #[] }, { accessFlags := 25, nameIndex := 376, descriptorIndex := 377, attributes := #[] }, { accessFlags := 25, nameIndex := 379, descriptorIndex := 377, attributes := #[] }, { accessFlags := 26, nameIndex := 381, descriptorIndex := 276, attributes := #[] }])
  fields := #[{ name := "MIN_VALUE", type := .long, accessFlags := 25, slot := 0, constantValue := 0 }, { name := "MAX_VALUE", type := .long, accessFlags := 25, slot := 1, constantValue := 0 }, { name := "TYPE", type := (.object "java/lang/Class"), accessFlags := 25, slot := 2, constantValue := 0 }, { name := "value", type := .long, accessFlags := 18, slot := 0, constantValue := 0 }, { name := "SIZE", type := .int, accessFlags := 25, slot := 3, constantValue := 0 }, { name := "BYTES", type := .int, accessFlags := 25, slot := 4, constantValue := 0 }, { name := "serialVersionUID", type := .long, accessFlags := 26, slot := 5, constantValue := 0 }]
  methods := #[k9m0, k9m1, k9m2]
  instanceTypes := #[.long]
  staticTypes := #[.long, .long, (.object "java/lang/Class"), .int, .int, .long]
  resolved := Array.replicate 524 none
  statics := none }

def pool10 : Array CpInfo := pool [(1, .class_ 2), (0, u "java/lang/Integer"), (16, u "digits"), (0, u "[C"), (32, u "numberOfLeadingZeros"), (0, u "(I)I"), (30, u "DigitOnes"), (0, u "[B"), (2, u "DigitTens"), (99, .class_ 190), (0, u "java/lang/Integer$IntegerCache"), (3, u "I"), (8, .class_ 204), (0, u "java/lang/Number"), (2, u "value"), (56, .integer 65536), (37, u "TYPE"), (0, u "Ljava/lang/Class;"), (0, .class_ 305), (0, u "java/lang/Comparable"), (0, .class_ 307), (0, u "java/lang/constant/Constable"), (0, .class_ 309), (0, u "java/lang/constant/ConstantDesc"), (0, u "MIN_VALUE"), (1, u "MAX_VALUE"), (3, u "SIZE"), (1, u "BYTES"), (1, u "serialVersionUID"), (0, u "J")] 131

def k10c0 : Code := { maxStack := 3, maxLocals := 2, code := jdk_33_method_47_code, exceptionTable := #[], attributes := #[] }
def k10m0 : Method := { name := "numberOfLeadingZeros", desc := "(I)I", sig := { parameters := [.int], returnType := some .int }, accessFlags := 9, code := some k10c0 }
/-- java/lang/Integer -/
def k10 : Class := { plain "java/lang/Integer" (some 5) with
  accessFlags := 49
  interfaces := #[6, 7, 8]
  cf := some (fileOf pool10 1 #[.nestMembers #[189]] #[{ accessFlags := 9, nameIndex := 53, descriptorIndex := 54, attributes := #[] }] 49 203 #[304, 306, 308] #[{ accessFlags := 25, nameIndex := 310, descriptorIndex := 194, attributes := #[] }, { accessFlags := 25, nameIndex := 312, descriptorIndex := 194, attributes := #[] }, { accessFlags := 25, nameIndex := 302, descriptorIndex := 303, attributes := #[] }, { accessFlags := 24, nameIndex := 19, descriptorIndex := 20, attributes := #[] }, { accessFlags := 24, nameIndex := 89, descriptorIndex := 86, attributes := #[] }, { accessFlags := 24, nameIndex := 85, descriptorIndex := 86, attributes := #[] }, { accessFlags := 18, nameIndex := 207, descriptorIndex := 194, attributes := #[] }, { accessFlags := 25, nameIndex := 316, descriptorIndex := 194, attributes := #[] }, { accessFlags := 25, nameIndex := 318, descriptorIndex := 194, attributes := #[] }, { accessFlags := 26, nameIndex := 320, descriptorIndex := 321, attributes := #[] }])
  fields := #[{ name := "MIN_VALUE", type := .int, accessFlags := 25, slot := 0, constantValue := 0 }, { name := "MAX_VALUE", type := .int, accessFlags := 25, slot := 1, constantValue := 0 }, { name := "TYPE", type := (.object "java/lang/Class"), accessFlags := 25, slot := 2, constantValue := 0 }, { name := "digits", type := (.array .char), accessFlags := 24, slot := 3, constantValue := 0 }, { name := "DigitTens", type := (.array .byte), accessFlags := 24, slot := 4, constantValue := 0 }, { name := "DigitOnes", type := (.array .byte), accessFlags := 24, slot := 5, constantValue := 0 }, { name := "value", type := .int, accessFlags := 18, slot := 0, constantValue := 0 }, { name := "SIZE", type := .int, accessFlags := 25, slot := 6, constantValue := 0 }, { name := "BYTES", type := .int, accessFlags := 25, slot := 7, constantValue := 0 }, { name := "serialVersionUID", type := .long, accessFlags := 26, slot := 8, constantValue := 0 }]
  methods := #[k10m0]
  instanceTypes := #[.int]
  staticTypes := #[.int, .int, (.object "java/lang/Class"), (.array .char), (.array .byte), (.array .byte), .int, .int, .long]
  resolved := Array.replicate 453 none
  statics := none }

def pool11 : Array CpInfo := pool [(1, u "java/lang/Cloneable"), (0, .class_ 1), (0, u "java/lang/Object"), (0, .class_ 3)] 3

/-- java/lang/Cloneable -/
def k11 : Class := { plain "java/lang/Cloneable" (some 0) with
  accessFlags := 1537
  interfaces := #[]
  cf := some (fileOf pool11 2 #[] #[] 1537 4 #[] #[])
  fields := #[]
  methods := #[]
  instanceTypes := #[]
  staticTypes := #[]
  resolved := Array.replicate 8 none
  statics := none }

/-- the primitive byte -/
def k12 : Class := { plain "byte" none with kind := .primitive 'B', accessFlags := 0x411 }
/-- [B -/
def k13 : Class := { plain "[B" (some 0) with kind := .array 12 .byte, interfaces := #[11, 4], accessFlags := 1041 }

/-- the primitive int -/
def k14 : Class := { plain "int" none with kind := .primitive 'I', accessFlags := 0x411 }
/-- [I -/
def k15 : Class := { plain "[I" (some 0) with kind := .array 14 .int, interfaces := #[11, 4], accessFlags := 1041 }

def heap : Heap := #[]
def classes : Array Class := #[k0, k1, k2, k3, k4, k5, k6, k7, k8, k9, k10, k11, k12, k13, k14, k15]
def interned : List (Array UInt16 × Addr) := []
def slotsUsed : Nat := 0
def theMethod : MethodId := ⟨1, 1⟩
def args0 : Array Value := #[.long 5, .long 7, .long 9, .long 1, .long 2, .int 3]
def aboutOver (below : List Frame) : State where
  vm := { classes := classes, interned := interned.toArray }
  heap := heap
  slotsUsed := slotsUsed
  threads := #[{ frames := .invoking theMethod args0 :: below }]
def below0 : List Frame := [.native { method := ⟨0, 0⟩, args := #[] }]
def about1 : State := aboutOver below0
def p0 : Program := .bare "" "" ""
def e0 : Env := launch0.env 0 0 0
theorem w_frames : about1.frames = Frame.invoking theMethod args0 :: below0 := rfl
set_option maxRecDepth 65536 in
theorem w_args : argsFit about1.vm theMethod args0 = true := by decide +kernel
set_option maxRecDepth 65536 in
theorem w_heap : heapFits about1 = true := by decide +kernel
set_option maxRecDepth 65536 in
theorem w_runnable : about1.curStatus? = some .runnable := by decide +kernel
set_option maxRecDepth 65536 in
theorem w_alone : about1.alone = true := by decide +kernel
set_option maxRecDepth 65536 in
theorem w_named : about1.methodNamed? x = some theMethod := by decide +kernel
set_option maxRecDepth 65536 in
theorem w_hears : about1.hears theMethod below0 = true := by decide +kernel
set_option maxRecDepth 65536 in
theorem w_ripe : about1.ripe theMethod args0 below0 = true := by decide +kernel
theorem w_running : about1.status = .running := rfl
set_option maxRecDepth 65536 in
theorem w_room : about1.hasRoom e0.platform room_1 = true :=
  launch0.hasRoom_least _ room_1 (by decide +kernel) (by decide +kernel) (by decide +kernel) (by decide +kernel) (by decide +kernel) (by decide +kernel)
theorem allAtoms_all (ts : List Jvm.Cond) (a : Array Jvm.Value) (st : Jvm.State) : (allAtoms ts).before a st = ts.all (fun c => c.before a st) := by
  induction ts with
  | nil => rfl
  | cons c t ih =>
    show (Jvm.Cond.and c (allAtoms t)).before a st = _
    rw [Jvm.Cond.before_and, ih, List.all_cons]
def words1 : List Jvm.Cond := Jvm.Cond.code x code maxLocals ret :: tables_1
/-- a 'code' word, met by the world's own term for the bytes: nothing is compared byte by byte -/
theorem code_word {y : MethodName} {bytes : ByteArray} {mx : Nat} {rt : Option FieldType} {a : Array Value} {s : State} {m : MethodId} {meth : Method} {c : Code} (h1 : s.methodNamed? y = some m) (h2 : s.vm.method? m = some meth) (h3 : meth.code = some c) (h4 : c.code = bytes)
    (h5 : (c.maxLocals == mx && c.exceptionTable.isEmpty && decide (c.maxStack ≤ mostOperands) && decide (meth.sig.returnType = rt) && !meth.locks && decide (parseMethodDescriptor y.desc = some meth.sig)) = true) : (Jvm.Cond.code y bytes mx rt).before a s = true := by
  simp only [Bool.and_eq_true, beq_iff_eq, Bool.not_eq_true', decide_eq_true_eq] at h5
  obtain ⟨⟨⟨⟨⟨g1, g2⟩, g3⟩, g4⟩, g5⟩, g6⟩ := h5
  simp [Cond.before, Cond.holds, Cond.value, h1, h2, h3, h4, g1, g2, g3, g4, g5, g6]
def isCode : Jvm.Cond → Bool
  | .code _ _ _ _ => true
  | _ => false
theorem all_split {L : List Jvm.Cond} {P : Jvm.Cond → Bool} (h1 : L.all (fun c => isCode c || P c) = true) (h2 : ∀ c ∈ L.filter isCode, P c = true) : L.all P = true := by
  refine List.all_eq_true.mpr fun c hc => ?_
  have h := List.all_eq_true.mp h1 c hc
  rcases Bool.eq_false_or_eq_true (isCode c) with hi | hi
  · exact h2 c (List.mem_filter.mpr ⟨hc, hi⟩)
  · simpa [hi] using h
set_option maxRecDepth 65536 in
theorem w_c0 : (Jvm.Cond.code x code maxLocals ret).before args0 about1 = true := code_word (m := ⟨1, 1⟩) (meth := k1m1) (c := k1c1) (by decide +kernel) rfl rfl rfl (by decide +kernel)
set_option maxRecDepth 65536 in
theorem w_c1 : (Jvm.Cond.code ({ cls := "com/example/evenkeel/evenkeel/share/FlooredSum", name := "<init>", desc := "()V" } : Jvm.MethodName) prog_96_method_1_code (1 : Nat) (Option.none : Option Jvm.ClassFile.FieldType)).before args0 about1 = true := code_word (m := ⟨2, 0⟩) (meth := k2m0) (c := k2c0) (by decide +kernel) rfl rfl rfl (by decide +kernel)
set_option maxRecDepth 65536 in
theorem w_c2 : (Jvm.Cond.code ({ cls := "java/lang/Object", name := "<init>", desc := "()V" } : Jvm.MethodName) object_method_1_code (1 : Nat) (Option.none : Option Jvm.ClassFile.FieldType)).before args0 about1 = true := code_word (m := ⟨0, 0⟩) (meth := k0m0) (c := k0c0) (by decide +kernel) rfl rfl rfl (by decide +kernel)
set_option maxRecDepth 65536 in
theorem w_c3 : (Jvm.Cond.code ({ cls := "com/example/evenkeel/evenkeel/share/FlooredSum", name := "add", desc := "(JJJJ)V" } : Jvm.MethodName) prog_96_method_10_code (57 : Nat) (Option.none : Option Jvm.ClassFile.FieldType)).before args0 about1 = true := code_word (m := ⟨2, 3⟩) (meth := k2m3) (c := k2c3) (by decide +kernel) rfl rfl rfl (by decide +kernel)
set_option maxRecDepth 65536 in
theorem w_c4 : (Jvm.Cond.code ({ cls := "com/example/evenkeel/evenkeel/share/FlooredSum", name := "sameAs", desc := "(Lcom/example/evenkeel/evenkeel/share/FlooredSum;)Z" } : Jvm.MethodName) prog_96_method_5_code (2 : Nat) (Option.some Jvm.ClassFile.FieldType.boolean)).before args0 about1 = true := code_word (m := ⟨2, 1⟩) (meth := k2m1) (c := k2c1) (by decide +kernel) rfl rfl rfl (by decide +kernel)
set_option maxRecDepth 65536 in
theorem w_c5 : (Jvm.Cond.code ({ cls := "java/lang/Math", name := "abs", desc := "(J)J" } : Jvm.MethodName) jdk_29_method_61_code (2 : Nat) (Option.some Jvm.ClassFile.FieldType.long)).before args0 about1 = true := code_word (m := ⟨3, 2⟩) (meth := k3m2) (c := k3c2) (by decide +kernel) rfl rfl rfl (by decide +kernel)
set_option maxRecDepth 65536 in
theorem w_c6 : (Jvm.Cond.code ({ cls := "com/example/evenkeel/evenkeel/share/FlooredSum", name := "unsignedMultiplyHigh", desc := "(JJ)J" } : Jvm.MethodName) prog_96_method_15_code (4 : Nat) (Option.some Jvm.ClassFile.FieldType.long)).before args0 about1 = true := code_word (m := ⟨2, 4⟩) (meth := k2m4) (c := k2c4) (by decide +kernel) rfl rfl rfl (by decide +kernel)
set_option maxRecDepth 65536 in
theorem w_c7 : (Jvm.Cond.code ({ cls := "java/lang/Math", name := "multiplyHigh", desc := "(JJ)J" } : Jvm.MethodName) jdk_29_method_45_code (20 : Nat) (Option.some Jvm.ClassFile.FieldType.long)).before args0 about1 = true := code_word (m := ⟨3, 1⟩) (meth := k3m1) (c := k3c1) (by decide +kernel) rfl rfl rfl (by decide +kernel)
set_option maxRecDepth 65536 in
theorem w_c8 : (Jvm.Cond.code ({ cls := "java/lang/Long", name := "compareUnsigned", desc := "(JJ)I" } : Jvm.MethodName) jdk_35_method_43_code (4 : Nat) (Option.some Jvm.ClassFile.FieldType.int)).before args0 about1 = true := code_word (m := ⟨9, 1⟩) (meth := k9m1) (c := k9c1) (by decide +kernel) rfl rfl rfl (by decide +kernel)
set_option maxRecDepth 65536 in
theorem w_c9 : (Jvm.Cond.code ({ cls := "java/lang/Long", name := "compare", desc := "(JJ)I" } : Jvm.MethodName) jdk_35_method_42_code (4 : Nat) (Option.some Jvm.ClassFile.FieldType.int)).before args0 about1 = true := code_word (m := ⟨9, 0⟩) (meth := k9m0) (c := k9c0) (by decide +kernel) rfl rfl rfl (by decide +kernel)
set_option maxRecDepth 65536 in
theorem w_c10 : (Jvm.Cond.code ({ cls := "java/lang/Long", name := "numberOfLeadingZeros", desc := "(J)I" } : Jvm.MethodName) jdk_35_method_48_code (3 : Nat) (Option.some Jvm.ClassFile.FieldType.int)).before args0 about1 = true := code_word (m := ⟨9, 2⟩) (meth := k9m2) (c := k9c2) (by decide +kernel) rfl rfl rfl (by decide +kernel)
set_option maxRecDepth 65536 in
theorem w_c11 : (Jvm.Cond.code ({ cls := "java/lang/Integer", name := "numberOfLeadingZeros", desc := "(I)I" } : Jvm.MethodName) jdk_33_method_47_code (2 : Nat) (Option.some Jvm.ClassFile.FieldType.int)).before args0 about1 = true := code_word (m := ⟨10, 0⟩) (meth := k10m0) (c := k10c0) (by decide +kernel) rfl rfl rfl (by decide +kernel)
set_option maxRecDepth 65536 in
theorem w_c12 : (Jvm.Cond.code ({ cls := "com/example/evenkeel/evenkeel/share/FlooredSum", name := "placed", desc := "(IIJJJJ)J" } : Jvm.MethodName) prog_96_method_9_code (10 : Nat) (Option.some Jvm.ClassFile.FieldType.long)).before args0 about1 = true := code_word (m := ⟨2, 2⟩) (meth := k2m2) (c := k2c2) (by decide +kernel) rfl rfl rfl (by decide +kernel)
def codes1 : List Jvm.Cond := [Jvm.Cond.code x code maxLocals ret, Jvm.Cond.code ({ cls := "com/example/evenkeel/evenkeel/share/FlooredSum", name := "<init>", desc := "()V" } : Jvm.MethodName) prog_96_method_1_code (1 : Nat) (Option.none : Option Jvm.ClassFile.FieldType), Jvm.Cond.code ({ cls := "java/lang/Object", name := "<init>", desc := "()V" } : Jvm.MethodName) object_method_1_code (1 : Nat) (Option.none : Option Jvm.ClassFile.FieldType), Jvm.Cond.code ({ cls := "com/example/evenkeel/evenkeel/share/FlooredSum", name := "add", desc := "(JJJJ)V" } : Jvm.MethodName) prog_96_method_10_code (57 : Nat) (Option.none : Option Jvm.ClassFile.FieldType), Jvm.Cond.code ({ cls := "com/example/evenkeel/evenkeel/share/FlooredSum", name := "sameAs", desc := "(Lcom/example/evenkeel/evenkeel/share/FlooredSum;)Z" } : Jvm.MethodName) prog_96_method_5_code (2 : Nat) (Option.some Jvm.ClassFile.FieldType.boolean), Jvm.Cond.code ({ cls := "java/lang/Math", name := "abs", desc := "(J)J" } : Jvm.MethodName) jdk_29_method_61_code (2 : Nat) (Option.some Jvm.ClassFile.FieldType.long), Jvm.Cond.code ({ cls := "com/example/evenkeel/evenkeel/share/FlooredSum", name := "unsignedMultiplyHigh", desc := "(JJ)J" } : Jvm.MethodName) prog_96_method_15_code (4 : Nat) (Option.some Jvm.ClassFile.FieldType.long), Jvm.Cond.code ({ cls := "java/lang/Math", name := "multiplyHigh", desc := "(JJ)J" } : Jvm.MethodName) jdk_29_method_45_code (20 : Nat) (Option.some Jvm.ClassFile.FieldType.long), Jvm.Cond.code ({ cls := "java/lang/Long", name := "compareUnsigned", desc := "(JJ)I" } : Jvm.MethodName) jdk_35_method_43_code (4 : Nat) (Option.some Jvm.ClassFile.FieldType.int), Jvm.Cond.code ({ cls := "java/lang/Long", name := "compare", desc := "(JJ)I" } : Jvm.MethodName) jdk_35_method_42_code (4 : Nat) (Option.some Jvm.ClassFile.FieldType.int), Jvm.Cond.code ({ cls := "java/lang/Long", name := "numberOfLeadingZeros", desc := "(J)I" } : Jvm.MethodName) jdk_35_method_48_code (3 : Nat) (Option.some Jvm.ClassFile.FieldType.int), Jvm.Cond.code ({ cls := "java/lang/Integer", name := "numberOfLeadingZeros", desc := "(I)I" } : Jvm.MethodName) jdk_33_method_47_code (2 : Nat) (Option.some Jvm.ClassFile.FieldType.int), Jvm.Cond.code ({ cls := "com/example/evenkeel/evenkeel/share/FlooredSum", name := "placed", desc := "(IIJJJJ)J" } : Jvm.MethodName) prog_96_method_9_code (10 : Nat) (Option.some Jvm.ClassFile.FieldType.long)]
set_option maxRecDepth 65536 in
theorem codes_eq : words1.filter isCode = codes1 := rfl
theorem w_codes : ∀ c ∈ words1.filter isCode, c.before args0 about1 = true := by
  rw [codes_eq]
  intro c hc
  simp only [codes1, List.mem_cons, List.not_mem_nil, or_false] at hc
  rcases hc with rfl | rfl | rfl | rfl | rfl | rfl | rfl | rfl | rfl | rfl | rfl | rfl | rfl
  · exact w_c0
  · exact w_c1
  · exact w_c2
  · exact w_c3
  · exact w_c4
  · exact w_c5
  · exact w_c6
  · exact w_c7
  · exact w_c8
  · exact w_c9
  · exact w_c10
  · exact w_c11
  · exact w_c12
set_option maxRecDepth 65536 in
theorem w_t1 : (words1.take 24).all (fun c => isCode c || c.before args0 about1) = true := by decide +kernel
set_option maxRecDepth 65536 in
theorem w_t2 : ((words1.drop 24).take 24).all (fun c => isCode c || c.before args0 about1) = true := by decide +kernel
set_option maxRecDepth 65536 in
theorem w_t3 : (((words1.drop 24).drop 24).take 24).all (fun c => isCode c || c.before args0 about1) = true := by decide +kernel
set_option maxRecDepth 65536 in
theorem w_t4 : (((words1.drop 24).drop 24).drop 24).all (fun c => isCode c || c.before args0 about1) = true := by decide +kernel
theorem w_tables : (allAtoms (Jvm.Cond.code x code maxLocals ret :: tables_1)).before args0 about1 = true := by
  rw [allAtoms_all]
  show words1.all (fun c => c.before args0 about1) = true
  refine all_split ?_ w_codes
  rw [← List.take_append_drop 24 words1, List.all_append, w_t1, ← List.take_append_drop 24 (words1.drop 24), List.all_append, w_t2, ← List.take_append_drop 24 ((words1.drop 24).drop 24), List.all_append, w_t3, w_t4]
  rfl
set_option maxRecDepth 65536 in
theorem w_case : (Jvm.Cond.and given_1 narrow_1).before args0 about1 = true := by decide +kernel
theorem w_applies : (headSpec (Jvm.Cond.code x code maxLocals ret :: tables_1) room_1).applies x e0.platform about1 = true :=
  (Spec.applies_iff w_frames).mpr ⟨w_running, w_runnable, w_alone, w_named, w_hears, w_ripe, w_room, w_tables⟩
theorem atStart : AtStart classFile x code maxLocals ret World_1 tables_1 room_1 Calls_1 rest_1 Pre_1 launch0 p0 e0 about1 theMethod args0 below0 :=
  ⟨lists_1, trivial, launch0.admits_env _ _ _, launch0.least_env, fairChoices_fair.cas, fairChoices_fair.clock, w_frames, w_args, w_heap, w_applies, trivial, trivial, w_case⟩
end start1
theorem witness_1 : WitnessClaimed_1 := ⟨start1.p0, start1.e0, start1.about1, start1.theMethod, start1.args0, start1.below0, start1.atStart⟩
end Jvm.Pilot.@@N@@
