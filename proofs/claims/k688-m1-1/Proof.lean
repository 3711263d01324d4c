import JvmDerived
import JvmDerived.Pilot.@@N@@Statement
import JvmDerived.Pilot.@@N@@Code
set_option linter.unusedVariables false
set_option linter.unusedSimpArgs false
namespace Jvm.Pilot.@@N@@
open Jvm Jvm.ClassFile Sem Op Lib Jvm.Free Jvm.Stand Jvm.LawKit Jvm.RoadKit Bundle Jvm.Pilot.@@N@@.Jvm.D
section OwnLayer
/-- the run from A ends, and P holds of how it ends -/
def own_Ends (tb : Tables) (e : Env) (below : List Frame) (P : Outcome → State → Prop) (A : State) : Prop :=
  ∃ s₂ o, Steps tb e below A s₂ ∧ s₂.status = .running ∧ Ended s₂ below o ∧ P o s₂
theorem own_st {tb : Tables} {e : Env} {below : List Frame} {P : Outcome → State → Prop} {A B : State} (h : ∀ t, Steps tb e below B t → Steps tb e below A t) (k : own_Ends tb e below P B) : own_Ends tb e below P A := by
  obtain ⟨s2, o, h1, h2⟩ := k
  exact ⟨s2, o, h _ h1, h2⟩
/-- where the walk stands: the state T, its heap h, k cells and n slots made, nothing below n0 written -/
def own_S (p : Program) (l : Launch) (e : Env) (R : Room) (s : State) (m : MethodId) (args : Array Value) (below : List Frame) (meth : Method) (c : Code) (n0 : Nat) (T : State) (h : Heap) (k n : Nat) : Prop :=
  ∃ locs, Stand p l e R s m args below meth c T locs k n ∧ T.heap = h ∧ Fr n0 locs
def own_P (s : State) (n0 : Nat) (Qf : Option Value → Heap → Prop) (C S : Nat) (o : Outcome) (U' : State) : Prop := ∃ v L, o = .returned v ∧ (Fr n0 L ∧ Qf v U'.heap) ∧ FrameEnd s o U' L C S
/-- a body's contract: called with 'as' at the heap h0 it returns, and Qf holds of what it returns and of the heap -/
def own_Con (l : Launch) (Z : State) (y : MethodName) (bytes : ByteArray) (maxL : Nat) (ret : Option FieldType) (ws : List Jvm.Cond) (rm : Room) (as' : Array Value) (h0 : Heap) (n0 : Nat) (Qf : Option Value → Heap → Prop) : Prop :=
  MetFree l y (head1 (Jvm.Cond.code y bytes maxL ret :: ws) rm) (fun a U => a = as' ∧ Z.Warmed39 U.vm ∧ U.heap = h0) (fun _ _ _ _ _ => True) (fun _ U o U' => ∃ v L, o = .returned v ∧ (Fr n0 L ∧ Qf v U'.heap) ∧ FrameEnd U o U' L rm.cells rm.slots)
variable {p : Program} {l : Launch} {e : Env} {R : Room} {s : State} {m : MethodId} {args : Array Value} {below : List Frame} {meth : Method} {c : Code} {n0 : Nat} {T : State} {h : Heap} {k n : Nat} {Z : State} {a0 : Array Value} {P : Outcome → State → Prop}
theorem own_here (Y : own_S p l e R s m args below meth c n0 T h k n) : At T m c below := by
  obtain ⟨_, X, -⟩ := Y
  exact X.here
theorem own_body {y : MethodName} {bytes : ByteArray} {maxL : Nat} {ret : Option FieldType} {ws : List Jvm.Cond} {rm : Room} {as' : Array Value} {h0 : Heap} {Qf : Option Value → Heap → Prop} (hpn : plainFor y = true)
    (hbody : ∀ (p : Program) (e : Env) (s : State) (m : MethodId) (below : List Frame) (meth : Method) (c : Code) (T : State), p.tables.exec = Jvm.exec → Z.Warmed39 s.vm → c.code = bytes → c.maxLocals = maxL → s.vm.findClass y.cls = some m.cls → meth.name = y.name → meth.sig.returnType = ret → meth.locks = false →
      own_S p l e rm s m as' below meth c n0 T h0 0 0 → own_Ends p.tables e below (own_P s n0 Qf rm.cells rm.slots) (T.setTop (entryFrame m as' maxL))) : own_Con l Z y bytes maxL ret ws rm as' h0 n0 Qf := by
  refine MetFree.of_bodySF hpn hisR ?_
  intro p e s m args below meth c s₁ Bd hml0 hP hK
  obtain ⟨rfl, hZ, hh⟩ := hP
  have hown : s.vm.findClass y.cls = some m.cls := findClass_of_methodNamed Bd.named
  have hnm := (name_of_methodNamed Bd.named Bd.method).1
  exact hbody p e s m below meth c s₁ Bd.exec hZ Bd.bytes hml0 hown hnm Bd.returns Bd.notSynchronized ⟨[], Stand.of_body Bd, by rw [← hh, Bd.state]; rfl, Fr.nil n0⟩
theorem own_leave (Y : own_S p l e R s m args below meth c n0 T h k n) (hlk : meth.locks = false) {v : Option Value} (hv : meth.sig.returnType = none → v = none) {Qf : Option Value → Heap → Prop} {C S : Nat} (hk : k ≤ C) (hn : n ≤ S) (hQ : Qf v h) {A : State}
    (st : ∀ (locs : List Loc) (fs : List Frame), Stand p l e R s m args below meth c T locs k n → (∀ (f : JFrame) (acts : List Action), f.method = m → f.locked = none → f.entered = [] → (doReturn e (T.setTop f) acts v).1 = T.setFrames fs) → Steps p.tables e below A (T.setFrames fs)) : own_Ends p.tables e below (own_P s n0 Qf C S) A := by
  obtain ⟨locs, X, e1, N⟩ := Y
  obtain ⟨fs, hr, hrun, hended, hW, hsame⟩ := X.leave hv hlk
  refine ⟨_, _, st locs fs X hr, hrun, hended, v, locs, rfl, ⟨N, ?_⟩, ⟨_, rfl⟩, hW, hsame.mono hk hn⟩
  show Qf v T.heap
  rw [e1]; exact hQ
theorem own_ret (Y : own_S p l e R s m args below meth c n0 T h k n) (hx : p.tables.exec = Jvm.exec) (hlk : meth.locks = false) {pc : Nat} {Ls : Array Slot} {w : Value} {t : FieldType} {i : Instr} {rest : List Value} (hret : meth.sig.returnType = some t) (hd : decode c.code pc = .ok (i, 1)) (hn : narrow t w = w)
    (hi : (i = .ireturn ∧ (t = .int ∨ t = .boolean ∨ t = .byte ∨ t = .char ∨ t = .short) ∧ ∃ z, w = .int z) ∨ (i = .lreturn ∧ t = .long ∧ ∃ z, w = .long z) ∨ (i = .dreturn ∧ t = .double ∧ ∃ z, w = .double z) ∨ (i = .freturn ∧ t = .float ∧ ∃ z, w = .float z) ∨ (i = .areturn ∧ t.isReference = true ∧ w.isRef = true))
    {Qf : Option Value → Heap → Prop} {C S : Nat} (hk : k ≤ C) (hs : n ≤ S) (hQ : Qf (some w) h) : own_Ends p.tables e below (own_P s n0 Qf C S) (T.setTop (mkF m pc Ls (w :: rest))) :=
  own_leave Y hlk (fun q => by rw [hret] at q; cases q) hk hs hQ fun _ _ X hr => retOut X hx hret hn hi hd hr
theorem own_retI (Y : own_S p l e R s m args below meth c n0 T h k n) (hx : p.tables.exec = Jvm.exec) (hlk : meth.locks = false) {pc : Nat} {Ls : Array Slot} {z : Int32} {rest : List Value} (hret : meth.sig.returnType = some .int) (hd : decode c.code pc = .ok (.ireturn, 1))
    {Qf : Option Value → Heap → Prop} {C S : Nat} (hk : k ≤ C) (hs : n ≤ S) (hQ : Qf (some (.int z)) h) : own_Ends p.tables e below (own_P s n0 Qf C S) (T.setTop (mkF m pc Ls (.int z :: rest))) :=
  own_ret Y hx hlk hret hd rfl (Or.inl ⟨rfl, Or.inl rfl, _, rfl⟩) hk hs hQ
theorem own_retN (Y : own_S p l e R s m args below meth c n0 T h k n) (hx : p.tables.exec = Jvm.exec) (hlk : meth.locks = false) {pc : Nat} {Ls : Array Slot} {z : Int32} {t : FieldType} {rest : List Value} (hret : meth.sig.returnType = some t) (ht : t = .boolean ∨ t = .byte ∨ t = .char ∨ t = .short) (hd : decode c.code pc = .ok (.ireturn, 1))
    {Qf : Option Value → Heap → Prop} {C S : Nat} (hk : k ≤ C) (hs : n ≤ S) (hQ : Qf (some (.int (nar t z))) h) : own_Ends p.tables e below (own_P s n0 Qf C S) (T.setTop (mkF m pc Ls (.int z :: rest))) :=
  own_leave Y hlk (fun q => by rw [hret] at q; cases q) hk hs hQ fun _ _ X hr => retN X hx hret ht hd hr
theorem own_retJ (Y : own_S p l e R s m args below meth c n0 T h k n) (hx : p.tables.exec = Jvm.exec) (hlk : meth.locks = false) {pc : Nat} {Ls : Array Slot} {z : Int64} {rest : List Value} (hret : meth.sig.returnType = some .long) (hd : decode c.code pc = .ok (.lreturn, 1))
    {Qf : Option Value → Heap → Prop} {C S : Nat} (hk : k ≤ C) (hs : n ≤ S) (hQ : Qf (some (.long z)) h) : own_Ends p.tables e below (own_P s n0 Qf C S) (T.setTop (mkF m pc Ls (.long z :: rest))) :=
  own_ret Y hx hlk hret hd rfl (Or.inr (Or.inl ⟨rfl, rfl, _, rfl⟩)) hk hs hQ
theorem own_retA (Y : own_S p l e R s m args below meth c n0 T h k n) (hx : p.tables.exec = Jvm.exec) (hlk : meth.locks = false) {pc : Nat} {Ls : Array Slot} {w : Value} {t : FieldType} {rest : List Value} (hret : meth.sig.returnType = some t) (ht : t.isReference = true) (hw : w.isRef = true) (hn : narrow t w = w) (hd : decode c.code pc = .ok (.areturn, 1))
    {Qf : Option Value → Heap → Prop} {C S : Nat} (hk : k ≤ C) (hs : n ≤ S) (hQ : Qf (some w) h) : own_Ends p.tables e below (own_P s n0 Qf C S) (T.setTop (mkF m pc Ls (w :: rest))) :=
  own_ret Y hx hlk hret hd hn (Or.inr (Or.inr (Or.inr (Or.inr ⟨rfl, ht, hw⟩)))) hk hs hQ
theorem own_retV (Y : own_S p l e R s m args below meth c n0 T h k n) (hx : p.tables.exec = Jvm.exec) (hlk : meth.locks = false) {pc : Nat} {Ls : Array Slot} (hret : meth.sig.returnType = none) (hd : decode c.code pc = .ok (.return_, 1))
    {Qf : Option Value → Heap → Prop} {C S : Nat} (hk : k ≤ C) (hs : n ≤ S) (hQ : Qf none h) : own_Ends p.tables e below (own_P s n0 Qf C S) (T.setTop (mkF m pc Ls [])) :=
  own_leave Y hlk (fun _ => rfl) hk hs hQ fun _ _ X hr => X.returnOut hx hret hd hr
/-! fields -/
theorem own_getF (Y : own_S p l e R s m args below meth c n0 T h k n) (hx : p.tables.exec = Jvm.exec) (hZ : Z.Warmed39 s.vm) {own R0 O f d host : String} {index : Nat} (hown : s.vm.findClass own = some m.cls) (w : (Jvm.Cond.fieldLink own index R0 f d).before a0 Z = true ∨ (Jvm.Cond.fieldLinkNest own index R0 f d host).before a0 Z = true) (via : Via Z R0 O f d) {a : Addr} {v : Value} (F : Fld Z h a O f d v)
    {g : JFrame} (hg : g.method = m) {rest : List Value} (hs : g.stack = .ref a :: rest) (hd : decode c.code g.pc = .ok (.getfield index, 3)) (K : ∀ T', own_S p l e R s m args below meth c n0 T' h k n → own_Ends p.tables e below P (T'.setTop { g with pc := g.pc + 3, stack := v :: rest })) : own_Ends p.tables e below P (T.setTop g) := by
  obtain ⟨locs, X, e1, N⟩ := Y
  obtain ⟨T', X', e', st⟩ := getF X hx hZ hown w via e1 F hg hs hd
  exact own_st st (K T' ⟨locs, X', e', N⟩)
theorem own_putF (Y : own_S p l e R s m args below meth c n0 T h k n) (hx : p.tables.exec = Jvm.exec) (hZ : Z.Warmed39 s.vm) {own R0 O f d host C : String} {index kk : Nat} {ty : FieldType} (hown : s.vm.findClass own = some m.cls) (w : (Jvm.Cond.fieldLink own index R0 f d).before a0 Z = true ∨ (Jvm.Cond.fieldLinkNest own index R0 f d host).before a0 Z = true) (via : Via Z R0 O f d) {a : Addr} {v old : Value} (F : Fld Z h a O f d old) (E : Exa Z h a C)
    (L : (Jvm.Cond.lays C O f d).before a0 Z = true ∨ ((Jvm.Cond.laysFinal C O f d).before a0 Z = true ∧ own = O ∧ meth.name = "<init>")) (wi : (Jvm.Cond.instantiable C kk).before a0 Z = true) (ha : n0 ≤ a) (hty : parseFieldDescriptor d = some ty) (hn : narrow ty v = v) (hf : fits ty v = true) {g : JFrame} (hg : g.method = m) {rest : List Value} (hs : g.stack = v :: .ref a :: rest) (hd : decode c.code g.pc = .ok (.putfield index, 3))
    (K : ∀ T' h', own_S p l e R s m args below meth c n0 T' h' k n → Wr h h' a (Jvm.RoadKit.slotOf Z O f d) v → Fld Z h' a O f d v → own_Ends p.tables e below P (T'.setTop { g with pc := g.pc + 3, stack := rest })) : own_Ends p.tables e below P (T.setTop g) := by
  obtain ⟨locs, X, e1, N⟩ := Y
  obtain ⟨T', h', X', e', W, st⟩ := putF X hx hZ hown w via e1 F E L wi hty hn hf hg hs hd
  exact own_st st (K T' h' ⟨_, X', e', Fr.snoc X' N ha⟩ W (F.same W))
theorem own_putFN (Y : own_S p l e R s m args below meth c n0 T h k n) (hx : p.tables.exec = Jvm.exec) (hZ : Z.Warmed39 s.vm) {own R0 O f d C : String} {index kk : Nat} {ty : FieldType} (hown : s.vm.findClass own = some m.cls) (w : (Jvm.Cond.fieldLink own index R0 f d).before a0 Z = true) (via : Via Z R0 O f d) {a : Addr} {v v' old : Value} (F : Fld Z h a O f d old) (E : Exa Z h a C)
    (L : (Jvm.Cond.lays C O f d).before a0 Z = true ∨ ((Jvm.Cond.laysFinal C O f d).before a0 Z = true ∧ own = O ∧ meth.name = "<init>")) (wi : (Jvm.Cond.instantiable C kk).before a0 Z = true) (ha : n0 ≤ a) (hty : parseFieldDescriptor d = some ty) (hn : narrow ty v = v') (hf : fits ty v' = true) {g : JFrame} (hg : g.method = m) {rest : List Value} (hs : g.stack = v :: .ref a :: rest) (hd : decode c.code g.pc = .ok (.putfield index, 3))
    (K : ∀ T' h', own_S p l e R s m args below meth c n0 T' h' k n → Wr h h' a (Jvm.RoadKit.slotOf Z O f d) v' → Fld Z h' a O f d v' → own_Ends p.tables e below P (T'.setTop { g with pc := g.pc + 3, stack := rest })) : own_Ends p.tables e below P (T.setTop g) := by
  obtain ⟨locs, X, e1, N⟩ := Y
  obtain ⟨T', h', X', e', W, st⟩ := putFN X hx hZ hown w via e1 F E L wi hty hn hf hg hs hd
  exact own_st st (K T' h' ⟨_, X', e', Fr.snoc X' N ha⟩ W (F.same W))
theorem own_getS (Y : own_S p l e R s m args below meth c n0 T h k n) (hx : p.tables.exec = Jvm.exec) (hZ : Z.Warmed39 s.vm) {own R0 O f d host : String} {index : Nat} (hown : s.vm.findClass own = some m.cls) (w : (Jvm.Cond.fieldLink own index R0 f d).before a0 Z = true ∨ (Jvm.Cond.fieldLinkNest own index R0 f d host).before a0 Z = true) (via : Via Z R0 O f d) {v : Value} (F : Sta Z h O f d v)
    {g : JFrame} (hg : g.method = m) (hd : decode c.code g.pc = .ok (.getstatic index, 3)) (K : ∀ T', own_S p l e R s m args below meth c n0 T' h k n → own_Ends p.tables e below P (T'.setTop { g with pc := g.pc + 3, stack := v :: g.stack })) : own_Ends p.tables e below P (T.setTop g) := by
  obtain ⟨locs, X, e1, N⟩ := Y
  obtain ⟨T', X', e', st⟩ := getS2 X hx hZ hown w via e1 F hg hd
  exact own_st st (K T' ⟨locs, X', e', N⟩)
/-! new objects -/
theorem own_new (Y : own_S p l e R s m args below meth c n0 T h k n) (hx : p.tables.exec = Jvm.exec) (hZ : Z.Warmed39 s.vm) {own C : String} {index nn : Nat} (hown : s.vm.findClass own = some m.cls) (w : (Jvm.Cond.classLink own index C).before a0 Z = true) (wi : (Jvm.Cond.instantiable C nn).before a0 Z = true) (wz : (Jvm.Cond.initialized C).before a0 Z = true)
    {g : JFrame} (hg : g.method = m) (hd : decode c.code g.pc = .ok (.new index, 3)) (hc : k + 1 ≤ R.cells) (hl : n + nn ≤ R.slots)
    (K : ∀ T' h' b, b = h.size → own_S p l e R s m args below meth c n0 T' h' (k + 1) (n + nn) → Ext h h' → Exa Z h' b C → (∀ (O nm d : String) (ty : FieldType), Laid Z a0 C O nm d → parseFieldDescriptor d = some ty → Fld Z h' b O nm d (defaultValue ty)) →
      own_Ends p.tables e below P (T'.setTop { g with pc := g.pc + 3, stack := .ref b :: g.stack })) : own_Ends p.tables e below P (T.setTop g) := by
  obtain ⟨locs, X, e1, N⟩ := Y
  obtain ⟨T', h', X', e', E, A, D, -, st⟩ := newO X hx hZ hown w wi wz e1 hg hd hc hl
  exact own_st st (K T' h' _ rfl ⟨locs, X', e', N⟩ E A (fun _ _ _ _ q r => D q r))
theorem own_initO (Y : own_S p l e R s m args below meth c n0 T h k n) (hx : p.tables.exec = Jvm.exec) (hZ : Z.Warmed39 s.vm) {own : String} {idx : Nat} (hown : s.vm.findClass own = some m.cls) (w1 : (Jvm.Cond.methodLink own idx Lib.objectInit).before a0 Z = true) (w2 : (Jvm.Cond.instanceMethod Lib.objectInit).before a0 Z = true) (w3 : (Jvm.Cond.code Lib.objectInit ⟨#[0xb1]⟩ 1 none).before a0 Z = true)
    {g : JFrame} (hg : g.method = m) (hsize : g.locals.size = c.maxLocals) {a : Addr} {rest : List Value} (hs : g.stack = .ref a :: rest) (hd : decode c.code g.pc = .ok (.invokespecial idx, 3)) (hf : 1 ≤ R.frames) {W : Nat} (hW : 2 * g.monitorRoom + (rest.map fun v => v.category).sum ≤ W) (hl : W + 12 ≤ R.locals)
    (K : ∀ T', own_S p l e R s m args below meth c n0 T' h k n → own_Ends p.tables e below P (T'.setTop { g with pc := g.pc + 3, stack := rest })) : own_Ends p.tables e below P (T.setTop g) := by
  obtain ⟨locs, X, e1, N⟩ := Y
  obtain ⟨T', X', e', st⟩ := initO X hx hZ hown w1 w2 w3 e1 hg hsize hs hd hf hW hl
  exact own_st st (K T' ⟨locs, X', e', N⟩)
/-! arrays: the cell's slots are the list vs -/
def own_A (Z : State) (h : Heap) (a : Addr) (ty : FieldType) (vs : List Value) : Prop := ∃ c : Cell, Arr Z h a c ty ∧ c.slots.toList = vs ∧ vs.length < 2 ^ 31
theorem own_A.lt {a : Addr} {ty : FieldType} {vs : List Value} (A : own_A Z h a ty vs) : a < h.size := by obtain ⟨c, A, -⟩ := A; exact A.lt
theorem own_A.ext {h' : Heap} {a : Addr} {ty : FieldType} {vs : List Value} (A : own_A Z h a ty vs) (E : Ext h h') : own_A Z h' a ty vs := by obtain ⟨c, A, r⟩ := A; exact ⟨c, A.ext E, r⟩
theorem own_A.other {h' : Heap} {a b : Addr} {sl : Nat} {v : Value} {ty : FieldType} {vs : List Value} (A : own_A Z h a ty vs) (W : Wr h h' b sl v) (q : a ≠ b) : own_A Z h' a ty vs := by obtain ⟨c, A, r⟩ := A; exact ⟨c, A.other W q, r⟩
theorem own_A.keep {h' : Heap} {a : Addr} {ws : List Addr} {ty : FieldType} {vs : List Value} (A : own_A Z h a ty vs) (K : Keep h h' ws) (q : a ∉ ws) : own_A Z h' a ty vs := by obtain ⟨c, A, r⟩ := A; exact ⟨c, ⟨K.2.1 a c A.1 q, A.2⟩, r⟩
theorem own_sz {c : Cell} {vs : List Value} (q : c.slots.toList = vs) : c.slots.size = vs.length := by rw [← q]; simp
theorem own_in {c : Cell} {vs : List Value} {j : Int32} {i : Nat} (q : c.slots.toList = vs) (hj : ¬ j < 0) (hi : j.toNatClampNeg = i) (hl : i < vs.length) : ¬ (j < 0 ∨ c.slots.size ≤ j.toNatClampNeg) := by
  rw [own_sz q, hi]; intro z; rcases z with z | z
  · exact hj z
  · omega
theorem own_get {c : Cell} {vs : List Value} {j : Int32} {i : Nat} {v : Value} (q : c.slots.toList = vs) (hi : j.toNatClampNeg = i) (hv : vs[i]? = some v) : c.slots[j.toNatClampNeg]? = some v := by
  rw [hi, ← Array.getElem?_toList, q, hv]
theorem own_A.set {h' : Heap} {a : Addr} {ty : FieldType} {vs : List Value} {cl : Cell} {i : Nat} {v : Value} (A : Arr Z h a cl ty) (q : cl.slots.toList = vs) (hl : vs.length < 2 ^ 31) (W : Wr h h' a i v) : own_A Z h' a ty (vs.set i v) :=
  ⟨_, A.same W, by simp [Cell.setSlot, q], by simpa using hl⟩
theorem own_newP (Y : own_S p l e R s m args below meth c n0 T h k n) (hx : p.tables.exec = Jvm.exec) (hZ : Z.Warmed39 s.vm) {aty : ArrayType} (w : (Jvm.Cond.arrayClass (newarray.typeOf aty)).before a0 Z = true) {g : JFrame} (hg : g.method = m) (hd : decode c.code g.pc = .ok (.newarray aty, 2)) {z : Int32} {rest : List Value} (hs : g.stack = .int z :: rest)
    (hz : ¬ z < 0) {nz cap : Nat} (hn : z.toNatClampNeg = nz) (hcap : nz ≤ cap) (hb : cap * 8 ≤ 536870912) (hc : k + 1 ≤ R.cells) (hl : n + cap ≤ R.slots) {ty : FieldType} (hty : newarray.typeOf aty = ty)
    (K : ∀ T' h' b, b = h.size → own_S p l e R s m args below meth c n0 T' h' (k + 1) (n + cap) → Ext h h' → own_A Z h' b ty (List.replicate nz (defaultValue ty)) → own_Ends p.tables e below P (T'.setTop { g with pc := g.pc + 2, stack := .ref b :: rest })) : own_Ends p.tables e below P (T.setTop g) := by
  obtain ⟨locs, X, e1, N⟩ := Y
  subst hty
  obtain ⟨T', h', cA, X', e', E, A, st⟩ := newP X hx hZ w e1 hg hd hs hz (cap := cap) (by rw [hn]; exact hcap) hb hc hl
  refine own_st st (K T' h' _ rfl ⟨locs, X', e', N⟩ E ⟨_, A, ?_, ?_⟩)
  · simp [newA, hn]
  · simp; omega
theorem own_newR (Y : own_S p l e R s m args below meth c n0 T h k n) (hx : p.tables.exec = Jvm.exec) (hZ : Z.Warmed39 s.vm) {own C : String} {index : Nat} (hown : s.vm.findClass own = some m.cls) (w1 : (Jvm.Cond.classLink own index C).before a0 Z = true) (w2 : (Jvm.Cond.arrayOver (.object C)).before a0 Z = true) {g : JFrame} (hg : g.method = m) (hd : decode c.code g.pc = .ok (.anewarray index, 3)) {z : Int32} {rest : List Value} (hs : g.stack = .int z :: rest)
    (hz : ¬ z < 0) {nz cap : Nat} (hn : z.toNatClampNeg = nz) (hcap : nz ≤ cap) (hb : cap * 8 ≤ 536870912) (hc : k + 1 ≤ R.cells) (hl : n + cap ≤ R.slots)
    (K : ∀ T' h' b, b = h.size → own_S p l e R s m args below meth c n0 T' h' (k + 1) (n + cap) → Ext h h' → own_A Z h' b (.object C) (List.replicate nz .null) → own_Ends p.tables e below P (T'.setTop { g with pc := g.pc + 3, stack := .ref b :: rest })) : own_Ends p.tables e below P (T.setTop g) := by
  obtain ⟨locs, X, e1, N⟩ := Y
  obtain ⟨T', h', cA, X', e', E, A, O, st⟩ := newR X hx hZ hown w1 w2 e1 hg hd hs hz (cap := cap) (by rw [hn]; exact hcap) hb hc hl
  refine own_st st (K T' h' _ rfl ⟨locs, X', e', N⟩ E ⟨_, A, ?_, ?_⟩)
  · simp [newA, hn, defaultValue]
  · simp; omega
theorem own_mono (Y : own_S p l e R s m args below meth c n0 T h k n) {k' n' : Nat} (hk : k ≤ k') (hn : n ≤ n') : own_S p l e R s m args below meth c n0 T h k' n' := by
  obtain ⟨locs, X, r⟩ := Y
  exact ⟨locs, { X with same := X.same.mono hk hn }, r⟩
theorem own_stI (Y : own_S p l e R s m args below meth c n0 T h k n) (hx : p.tables.exec = Jvm.exec) (hZ : Z.Warmed39 s.vm) {a : Addr} {vs : List Value} (A : own_A Z h a .int vs) (ha : n0 ≤ a) {j x : Int32} {i : Nat} (hj : ¬ j < 0) (hi : j.toNatClampNeg = i) (hl : i < vs.length) {g : JFrame} (hg : g.method = m) {rest : List Value} (hs : g.stack = .int x :: .int j :: .ref a :: rest) (hd : decode c.code g.pc = .ok (.iastore, 1))
    (K : ∀ T' h', own_S p l e R s m args below meth c n0 T' h' k n → Wr h h' a i (.int x) → own_A Z h' a .int (vs.set i (.int x)) → own_Ends p.tables e below P (T'.setTop { g with pc := g.pc + 1, stack := rest })) : own_Ends p.tables e below P (T.setTop g) := by
  obtain ⟨locs, X, e1, N⟩ := Y
  obtain ⟨cl, A, q, r⟩ := A
  obtain ⟨T', h', X', e', W, st⟩ := stI X hx hZ e1 A (own_in q hj hi hl) hg hs hd
  have W' := W; rw [hi] at W'
  exact own_st st (K T' h' ⟨_, X', e', Fr.snoc X' N ha⟩ W' (own_A.set A q r W'))
theorem own_stJ (Y : own_S p l e R s m args below meth c n0 T h k n) (hx : p.tables.exec = Jvm.exec) (hZ : Z.Warmed39 s.vm) {a : Addr} {vs : List Value} (A : own_A Z h a .long vs) (ha : n0 ≤ a) {j : Int32} {x : Int64} {i : Nat} (hj : ¬ j < 0) (hi : j.toNatClampNeg = i) (hl : i < vs.length) {g : JFrame} (hg : g.method = m) {rest : List Value} (hs : g.stack = .long x :: .int j :: .ref a :: rest) (hd : decode c.code g.pc = .ok (.lastore, 1))
    (K : ∀ T' h', own_S p l e R s m args below meth c n0 T' h' k n → Wr h h' a i (.long x) → own_A Z h' a .long (vs.set i (.long x)) → own_Ends p.tables e below P (T'.setTop { g with pc := g.pc + 1, stack := rest })) : own_Ends p.tables e below P (T.setTop g) := by
  obtain ⟨locs, X, e1, N⟩ := Y
  obtain ⟨cl, A, q, r⟩ := A
  obtain ⟨T', h', X', e', W, st⟩ := stJ X hx hZ e1 A (own_in q hj hi hl) hg hs hd
  have W' := W; rw [hi] at W'
  exact own_st st (K T' h' ⟨_, X', e', Fr.snoc X' N ha⟩ W' (own_A.set A q r W'))
theorem own_stB (Y : own_S p l e R s m args below meth c n0 T h k n) (hx : p.tables.exec = Jvm.exec) (hZ : Z.Warmed39 s.vm) {a : Addr} {vs : List Value} (A : own_A Z h a .byte vs) (ha : n0 ≤ a) {j x : Int32} {i : Nat} (hj : ¬ j < 0) (hi : j.toNatClampNeg = i) (hl : i < vs.length) {g : JFrame} (hg : g.method = m) {rest : List Value} (hs : g.stack = .int x :: .int j :: .ref a :: rest) (hd : decode c.code g.pc = .ok (.bastore, 1))
    (K : ∀ T' h', own_S p l e R s m args below meth c n0 T' h' k n → Wr h h' a i (.int x.toInt8.toInt32) → own_A Z h' a .byte (vs.set i (.int x.toInt8.toInt32)) → own_Ends p.tables e below P (T'.setTop { g with pc := g.pc + 1, stack := rest })) : own_Ends p.tables e below P (T.setTop g) := by
  obtain ⟨locs, X, e1, N⟩ := Y
  obtain ⟨cl, A, q, r⟩ := A
  obtain ⟨T', h', X', e', W, st⟩ := stB X hx hZ e1 A (own_in q hj hi hl) hg hs hd
  have W' := W; rw [hi] at W'
  exact own_st st (K T' h' ⟨_, X', e', Fr.snoc X' N ha⟩ W' (own_A.set A q r W'))
theorem own_stC (Y : own_S p l e R s m args below meth c n0 T h k n) (hx : p.tables.exec = Jvm.exec) (hZ : Z.Warmed39 s.vm) {a : Addr} {vs : List Value} (A : own_A Z h a .char vs) (ha : n0 ≤ a) {j x : Int32} {i : Nat} (hj : ¬ j < 0) (hi : j.toNatClampNeg = i) (hl : i < vs.length) {g : JFrame} (hg : g.method = m) {rest : List Value} (hs : g.stack = .int x :: .int j :: .ref a :: rest) (hd : decode c.code g.pc = .ok (.castore, 1))
    (K : ∀ T' h', own_S p l e R s m args below meth c n0 T' h' k n → Wr h h' a i (.int x.toUInt32.toUInt16.toUInt32.toInt32) → own_A Z h' a .char (vs.set i (.int x.toUInt32.toUInt16.toUInt32.toInt32)) → own_Ends p.tables e below P (T'.setTop { g with pc := g.pc + 1, stack := rest })) : own_Ends p.tables e below P (T.setTop g) := by
  obtain ⟨locs, X, e1, N⟩ := Y
  obtain ⟨cl, A, q, r⟩ := A
  obtain ⟨T', h', X', e', W, st⟩ := stC X hx hZ e1 A (own_in q hj hi hl) hg hs hd
  have W' := W; rw [hi] at W'
  exact own_st st (K T' h' ⟨_, X', e', Fr.snoc X' N ha⟩ W' (own_A.set A q r W'))
theorem own_len (Y : own_S p l e R s m args below meth c n0 T h k n) (hx : p.tables.exec = Jvm.exec) (hZ : Z.Warmed39 s.vm) {a : Addr} {ty : FieldType} {vs : List Value} (A : own_A Z h a ty vs) {z : Int32} (hz : vs.length.toInt32 = z) {g : JFrame} (hg : g.method = m) {rest : List Value} (hs : g.stack = .ref a :: rest) (hd : decode c.code g.pc = .ok (.arraylength, 1))
    (K : own_Ends p.tables e below P (T.setTop { g with pc := g.pc + 1, stack := .int z :: rest })) : own_Ends p.tables e below P (T.setTop g) := by
  obtain ⟨locs, X, e1, N⟩ := Y
  obtain ⟨cl, A, q, r⟩ := A
  refine own_st (fun t => X.arraylength hx (by rw [e1]; exact A.1) (State.isArrayOf_alike hZ.alike A.2.1) hg hs hd t) ?_
  rw [own_sz q, hz]; exact K
theorem own_ldI (Y : own_S p l e R s m args below meth c n0 T h k n) (hx : p.tables.exec = Jvm.exec) (hZ : Z.Warmed39 s.vm) {a : Addr} {vs : List Value} (A : own_A Z h a .int vs) {j : Int32} {i : Nat} (hj : ¬ j < 0) (hi : j.toNatClampNeg = i) (hl : i < vs.length) {v : Value} (hv : vs[i]? = some v) {g : JFrame} (hg : g.method = m) {rest : List Value} (hs : g.stack = .int j :: .ref a :: rest) (hd : decode c.code g.pc = .ok (.iaload, 1))
    (K : own_Ends p.tables e below P (T.setTop { g with pc := g.pc + 1, stack := v :: rest })) : own_Ends p.tables e below P (T.setTop g) := by
  obtain ⟨locs, X, e1, N⟩ := Y
  obtain ⟨cl, A, q, r⟩ := A
  exact own_st (fun t => X.iaload hx (by rw [e1]; exact A.1) (State.isArrayOf_alike hZ.alike A.2.1) A.2.2 (own_in q hj hi hl) (own_get q hi hv) hg hs hd t) K
theorem own_ldB (Y : own_S p l e R s m args below meth c n0 T h k n) (hx : p.tables.exec = Jvm.exec) (hZ : Z.Warmed39 s.vm) {a : Addr} {vs : List Value} (A : own_A Z h a .byte vs) {j : Int32} {i : Nat} (hj : ¬ j < 0) (hi : j.toNatClampNeg = i) (hl : i < vs.length) {v : Value} (hv : vs[i]? = some v) {g : JFrame} (hg : g.method = m) {rest : List Value} (hs : g.stack = .int j :: .ref a :: rest) (hd : decode c.code g.pc = .ok (.baload, 1))
    (K : own_Ends p.tables e below P (T.setTop { g with pc := g.pc + 1, stack := v :: rest })) : own_Ends p.tables e below P (T.setTop g) := by
  obtain ⟨locs, X, e1, N⟩ := Y
  obtain ⟨cl, A, q, r⟩ := A
  exact own_st (fun t => X.baloadBytes hx (by rw [e1]; exact A.1) (State.isArrayOf_alike hZ.alike A.2.1) A.2.2 (own_in q hj hi hl) (own_get q hi hv) hg hs hd t) K
theorem own_ldC (Y : own_S p l e R s m args below meth c n0 T h k n) (hx : p.tables.exec = Jvm.exec) (hZ : Z.Warmed39 s.vm) {a : Addr} {vs : List Value} (A : own_A Z h a .char vs) {j : Int32} {i : Nat} (hj : ¬ j < 0) (hi : j.toNatClampNeg = i) (hl : i < vs.length) {v : Value} (hv : vs[i]? = some v) {g : JFrame} (hg : g.method = m) {rest : List Value} (hs : g.stack = .int j :: .ref a :: rest) (hd : decode c.code g.pc = .ok (.caload, 1))
    (K : own_Ends p.tables e below P (T.setTop { g with pc := g.pc + 1, stack := v :: rest })) : own_Ends p.tables e below P (T.setTop g) := by
  obtain ⟨locs, X, e1, N⟩ := Y
  obtain ⟨cl, A, q, r⟩ := A
  exact own_st (fun t => X.caload hx (by rw [e1]; exact A.1) (State.isArrayOf_alike hZ.alike A.2.1) A.2.2 (own_in q hj hi hl) (own_get q hi hv) hg hs hd t) K
theorem own_ldJ (Y : own_S p l e R s m args below meth c n0 T h k n) (hx : p.tables.exec = Jvm.exec) (hZ : Z.Warmed39 s.vm) {a : Addr} {vs : List Value} (A : own_A Z h a .long vs) {j : Int32} {i : Nat} (hj : ¬ j < 0) (hi : j.toNatClampNeg = i) (hl : i < vs.length) {v : Value} (hv : vs[i]? = some v) {g : JFrame} (hg : g.method = m) {rest : List Value} (hs : g.stack = .int j :: .ref a :: rest) (hd : decode c.code g.pc = .ok (.laload, 1))
    (K : own_Ends p.tables e below P (T.setTop { g with pc := g.pc + 1, stack := v :: rest })) : own_Ends p.tables e below P (T.setTop g) := by
  obtain ⟨locs, X, e1, N⟩ := Y
  obtain ⟨cl, A, q, r⟩ := A
  exact own_st (fun t => X.laload hx (by rw [e1]; exact A.1) (State.isArrayOf_alike hZ.alike A.2.1) A.2.2 (own_in q hj hi hl) (own_get q hi hv) hg hs hd t) K
/-! constants -/
theorem own_ldcI (Y : own_S p l e R s m args below meth c n0 T h k n) (hx : p.tables.exec = Jvm.exec) (hZ : Z.Warmed39 s.vm) {own : String} {index : Nat} {v : Int32} (hown : s.vm.findClass own = some m.cls) (w : (Jvm.Cond.constant own index v).before a0 Z = true) {g : JFrame} (hg : g.method = m) (hd : decode c.code g.pc = .ok (.ldc index, 2))
    (K : own_Ends p.tables e below P (T.setTop { g with pc := g.pc + 2, stack := .int v :: g.stack })) : own_Ends p.tables e below P (T.setTop g) := by
  obtain ⟨locs, X, e1, N⟩ := Y
  exact own_st (X.ldcInt hx hown (mvT hZ w) hg hd) K
theorem own_ldcJ (Y : own_S p l e R s m args below meth c n0 T h k n) (hx : p.tables.exec = Jvm.exec) (hZ : Z.Warmed39 s.vm) {own : String} {index : Nat} {v : Int64} (hown : s.vm.findClass own = some m.cls) (w : (Jvm.Cond.constantLong own index v).before a0 Z = true) {g : JFrame} (hg : g.method = m) (hd : decode c.code g.pc = .ok (.ldc2_w index, 3))
    (K : own_Ends p.tables e below P (T.setTop { g with pc := g.pc + 3, stack := .long v :: g.stack })) : own_Ends p.tables e below P (T.setTop g) := by
  obtain ⟨locs, X, e1, N⟩ := Y
  exact own_st (X.ldc2Long hx hown (mvT hZ w) hg hd) K
theorem own_irem (Y : own_S p l e R s m args below meth c n0 T h k n) (hx : p.tables.exec = Jvm.exec) {g : JFrame} (hg : g.method = m) {x y : Int32} {rest : List Value} (hd : decode c.code g.pc = .ok (.irem, 1)) (hs : g.stack = .int y :: .int x :: rest) (hy : y ≠ 0)
    (K : own_Ends p.tables e below P (T.setTop { g with pc := g.pc + 1, stack := .int (x % y) :: rest })) : own_Ends p.tables e below P (T.setTop g) := by
  obtain ⟨locs, X, e1, N⟩ := Y
  exact own_st (fun t => iremM X hx hg hd hs hy) K
/-! calls by contract -/
theorem own_callS (Y : own_S p l e R s m args below meth c n0 T h k n) (hx : p.tables.exec = Jvm.exec) (hZ : Z.Warmed39 s.vm) {own : String} {index : Nat} {y : MethodName} {bytes : ByteArray} {maxL : Nat} {ret : Option FieldType} (hown : s.vm.findClass own = some m.cls) (wl : (Jvm.Cond.methodLink own index y).before a0 Z = true) (wst : (Jvm.Cond.static y).before a0 Z = true) (wi : (Jvm.Cond.initialized y.cls).before a0 Z = true) (wc : (Jvm.Cond.code y bytes maxL ret).before a0 Z = true)
    (hy : y.cls ≠ "java/lang/invoke/MethodHandle" ∧ y.cls ≠ "java/lang/invoke/VarHandle") {rm : Room} {argsL rest : List Value} {Qf : Option Value → Heap → Prop} (hM : own_Con l Z y bytes maxL ret [] rm argsL.toArray h n0 Qf) {W : Nat} (hfr : rm.frames + 1 ≤ R.frames) (hlo : W + (maxL + 11) + rm.locals ≤ R.locals) (hc : k + rm.cells ≤ R.cells) (hsl : n + rm.slots ≤ R.slots)
    {g : JFrame} (hg : g.method = m) (hsize : g.locals.size = c.maxLocals) (hlen : ∀ sig, parseMethodDescriptor y.desc = some sig → argsL.length = sig.parameters.length) (hs : g.stack = argsL.reverse ++ rest) (hW : 2 * g.monitorRoom + (rest.map fun v => v.category).sum ≤ W) (hd : decode c.code g.pc = .ok (.invokestatic index, 3))
    (K : ∀ T' h' v, own_S p l e R s m args below meth c n0 T' h' (k + rm.cells) (n + rm.slots) → Qf v h' → own_Ends p.tables e below P (T'.setTop { g with pc := g.pc + 3, stack := v.toList ++ rest })) : own_Ends p.tables e below P (T.setTop g) := by
  obtain ⟨locs, X, e1, N⟩ := Y
  obtain ⟨v, vm1, ⟨T', L', k', n'⟩, -, X', ⟨L, hQ, l1, y1, z1⟩, st⟩ := Jvm.LawKit.callS X hx hown (mvT hZ wl) (mvT hZ wst) (mvT hZ wi) (mvT hZ wc) hy (backOf (W := W) (Q := fun v h L => Fr n0 L ∧ Qf v h) hM hZ wc wi hfr hlo) hg hsize hlen hs hW hd (fun _ _ => ⟨rfl, e1, hc, hsl⟩)
  dsimp only [Pt.U, Pt.locs, Pt.cells, Pt.slots] at X' l1 y1 z1 st hQ
  subst l1 y1 z1
  exact own_st st (K T' _ v ⟨_, X', rfl, Fr.app N hQ.1⟩ hQ.2)
theorem own_callN (Y : own_S p l e R s m args below meth c n0 T h k n) (hx : p.tables.exec = Jvm.exec) (hZ : Z.Warmed39 s.vm) {own : String} {index : Nat} {y : MethodName} {bytes : ByteArray} {maxL : Nat} (hy1 : y.name = "<init>") (hown : s.vm.findClass own = some m.cls) (wl : (Jvm.Cond.methodLink own index y).before a0 Z = true) (win : (Jvm.Cond.instanceMethod y).before a0 Z = true) (wi : (Jvm.Cond.initialized y.cls).before a0 Z = true) (wc : (Jvm.Cond.code y bytes maxL none).before a0 Z = true)
    (hy : y.cls ≠ "java/lang/invoke/MethodHandle" ∧ y.cls ≠ "java/lang/invoke/VarHandle") {rm : Room} {a : Addr} {argsL rest : List Value} {Qf : Option Value → Heap → Prop} (hM : own_Con l Z y bytes maxL none [] rm (.ref a :: argsL).toArray h n0 Qf) {W : Nat} (hfr : rm.frames + 1 ≤ R.frames) (hlo : W + (maxL + 11) + rm.locals ≤ R.locals) (hc : k + rm.cells ≤ R.cells) (hsl : n + rm.slots ≤ R.slots)
    {g : JFrame} (hg : g.method = m) (hsize : g.locals.size = c.maxLocals) (hlen : ∀ sig, parseMethodDescriptor y.desc = some sig → argsL.length = sig.parameters.length) (hs : g.stack = argsL.reverse ++ .ref a :: rest) (hW : 2 * g.monitorRoom + (rest.map fun v => v.category).sum ≤ W) (hd : decode c.code g.pc = .ok (.invokespecial index, 3))
    (K : ∀ T' h' v, own_S p l e R s m args below meth c n0 T' h' (k + rm.cells) (n + rm.slots) → Qf v h' → own_Ends p.tables e below P (T'.setTop { g with pc := g.pc + 3, stack := v.toList ++ rest })) : own_Ends p.tables e below P (T.setTop g) := by
  obtain ⟨locs, X, e1, N⟩ := Y
  obtain ⟨v, vm1, ⟨T', L', k', n'⟩, -, X', ⟨L, hQ, l1, y1, z1⟩, st⟩ := X.specialBack hx hy1 hown (mvT hZ wl) (mvT hZ win) (mvT hZ wc) hy (backOf (W := W) (Q := fun v h L => Fr n0 L ∧ Qf v h) hM hZ wc wi hfr hlo) hg hsize (Steps.refl _) hlen hs hW hd (fun _ _ => ⟨rfl, e1, hc, hsl⟩)
  dsimp only [Pt.U, Pt.locs, Pt.cells, Pt.slots] at X' l1 y1 z1 st hQ
  subst l1 y1 z1
  exact own_st (fun t q => st.trans q) (K T' _ v ⟨_, X', rfl, Fr.app N hQ.1⟩ hQ.2)
theorem own_callV (Y : own_S p l e R s m args below meth c n0 T h k n) (hx : p.tables.exec = Jvm.exec) (hZ : Z.Warmed39 s.vm) {own C : String} {index : Nat} {y z : MethodName} {bytes : ByteArray} {maxL : Nat} {ret : Option FieldType} (hown : s.vm.findClass own = some m.cls) (wl : (Jvm.Cond.methodLink own index y).before a0 Z = true) (wd : (Jvm.Cond.declares y).before a0 Z = true) (hnf : NotFace s y) (wse : (Jvm.Cond.selects C y z).before a0 Z = true) (win : (Jvm.Cond.instanceMethod z).before a0 Z = true) (wi : (Jvm.Cond.initialized z.cls).before a0 Z = true) (wc : (Jvm.Cond.code z bytes maxL ret).before a0 Z = true)
    (hy : y.cls ≠ "java/lang/invoke/MethodHandle" ∧ y.cls ≠ "java/lang/invoke/VarHandle") {rm : Room} {a : Addr} (E : Exa Z h a C) {argsL rest : List Value} {Qf : Option Value → Heap → Prop} (hM : own_Con l Z z bytes maxL ret [] rm (.ref a :: argsL).toArray h n0 Qf) {W : Nat} (hfr : rm.frames + 1 ≤ R.frames) (hlo : W + (maxL + 11) + rm.locals ≤ R.locals) (hc : k + rm.cells ≤ R.cells) (hsl : n + rm.slots ≤ R.slots)
    {g : JFrame} (hg : g.method = m) (hsize : g.locals.size = c.maxLocals) (hlen : ∀ sig, parseMethodDescriptor y.desc = some sig → argsL.length = sig.parameters.length) (hs : g.stack = argsL.reverse ++ .ref a :: rest) (hW : 2 * g.monitorRoom + (rest.map fun v => v.category).sum ≤ W) (hd : decode c.code g.pc = .ok (.invokevirtual index, 3))
    (K : ∀ T' h' v, own_S p l e R s m args below meth c n0 T' h' (k + rm.cells) (n + rm.slots) → Qf v h' → own_Ends p.tables e below P (T'.setTop { g with pc := g.pc + 3, stack := v.toList ++ rest })) : own_Ends p.tables e below P (T.setTop g) := by
  obtain ⟨locs, X, e1, N⟩ := Y
  obtain ⟨cq, kq, qa, qb, qc⟩ := isOf hZ e1 E
  obtain ⟨v, vm1, ⟨T', L', k', n'⟩, -, X', ⟨L, hQ, l1, y1, z1⟩, st⟩ := X.virtualBack hx hown (mvT hZ wl) (mvT hZ wd) hnf (mvT hZ wse) (mvT hZ win) hy (backOf (W := W) (Q := fun v h L => Fr n0 L ∧ Qf v h) hM hZ wc wi hfr hlo) qa qc hg hsize (Steps.refl _) hlen hs hW hd (fun _ _ => ⟨rfl, e1, hc, hsl⟩)
  dsimp only [Pt.U, Pt.locs, Pt.cells, Pt.slots] at X' l1 y1 z1 st hQ
  subst l1 y1 z1
  exact own_st (fun t q => st.trans q) (K T' _ v ⟨_, X', rfl, Fr.app N hQ.1⟩ hQ.2)
theorem own_callU (Y : own_S p l e R s m args below meth c n0 T h k n) (hx : p.tables.exec = Jvm.exec) (hZ : Z.Warmed39 s.vm) {own C owner : String} {index : Nat} {y z : MethodName} {bytes : ByteArray} {maxL : Nat} {ret : Option FieldType} (hown : s.vm.findClass own = some m.cls) (wl : (Jvm.Cond.methodLink own index y).before a0 Z = true) (wsm : (Jvm.Cond.sameMethod y.cls owner y.name y.desc).before a0 Z = true) (wd : (Jvm.Cond.declares ⟨owner, y.name, y.desc⟩).before a0 Z = true) (wse : (Jvm.Cond.selects C y z).before a0 Z = true) (win : (Jvm.Cond.instanceMethod z).before a0 Z = true) (wi : (Jvm.Cond.initialized z.cls).before a0 Z = true) (wc : (Jvm.Cond.code z bytes maxL ret).before a0 Z = true)
    (hy : owner ≠ "java/lang/invoke/MethodHandle" ∧ owner ≠ "java/lang/invoke/VarHandle") {rm : Room} {a : Addr} (E : Exa Z h a C) {argsL rest : List Value} {Qf : Option Value → Heap → Prop} (hM : own_Con l Z z bytes maxL ret [] rm (.ref a :: argsL).toArray h n0 Qf) {W : Nat} (hfr : rm.frames + 1 ≤ R.frames) (hlo : W + (maxL + 11) + rm.locals ≤ R.locals) (hc : k + rm.cells ≤ R.cells) (hsl : n + rm.slots ≤ R.slots)
    {g : JFrame} (hg : g.method = m) (hsize : g.locals.size = c.maxLocals) (hlen : ∀ sig, parseMethodDescriptor y.desc = some sig → argsL.length = sig.parameters.length) (hs : g.stack = argsL.reverse ++ .ref a :: rest) (hW : 2 * g.monitorRoom + (rest.map fun v => v.category).sum ≤ W) (hd : decode c.code g.pc = .ok (.invokevirtual index, 3))
    (K : ∀ T' h' v, own_S p l e R s m args below meth c n0 T' h' (k + rm.cells) (n + rm.slots) → Qf v h' → own_Ends p.tables e below P (T'.setTop { g with pc := g.pc + 3, stack := v.toList ++ rest })) : own_Ends p.tables e below P (T.setTop g) := by
  obtain ⟨locs, X, e1, N⟩ := Y
  obtain ⟨cq, kq, qa, qb, qc⟩ := isOf hZ e1 E
  obtain ⟨v, vm1, ⟨T', L', k', n'⟩, -, X', ⟨L, hQ, l1, y1, z1⟩, st⟩ := X.virtualBackUp hx hown (mvT hZ wl) (mvT hZ wsm) (mvT hZ wd) hy (mvT hZ wse) (mvT hZ win) (backOf (W := W) (Q := fun v h L => Fr n0 L ∧ Qf v h) hM hZ wc wi hfr hlo) qa qc hg hsize (Steps.refl _) hlen hs hW hd (fun _ _ => ⟨rfl, e1, hc, hsl⟩)
  dsimp only [Pt.U, Pt.locs, Pt.cells, Pt.slots] at X' l1 y1 z1 st hQ
  subst l1 y1 z1
  exact own_st (fun t q => st.trans q) (K T' _ v ⟨_, X', rfl, Fr.app N hQ.1⟩ hQ.2)
theorem own_callP (Y : own_S p l e R s m args below meth c n0 T h k n) (hx : p.tables.exec = Jvm.exec) (hZ : Z.Warmed39 s.vm) {own C : String} {index : Nat} {y : MethodName} {bytes : ByteArray} {maxL : Nat} {ret : Option FieldType} (hown : s.vm.findClass own = some m.cls) (wl : (Jvm.Cond.methodLink own index y).before a0 Z = true) {nn : Nat} (win : (Jvm.Cond.instanceMethod y).before a0 Z = true) (wn : (Jvm.Cond.instantiable y.cls nn).before a0 Z = true) (wp : (Jvm.Cond.privateMethod y).before a0 Z = true) (wi : (Jvm.Cond.initialized y.cls).before a0 Z = true) (wc : (Jvm.Cond.code y bytes maxL ret).before a0 Z = true)
    (hy : y.cls ≠ "java/lang/invoke/MethodHandle" ∧ y.cls ≠ "java/lang/invoke/VarHandle") {rm : Room} {a : Addr} (E : Exa Z h a C) {argsL rest : List Value} {Qf : Option Value → Heap → Prop} (hM : own_Con l Z y bytes maxL ret [] rm (.ref a :: argsL).toArray h n0 Qf) {W : Nat} (hfr : rm.frames + 1 ≤ R.frames) (hlo : W + (maxL + 11) + rm.locals ≤ R.locals) (hc : k + rm.cells ≤ R.cells) (hsl : n + rm.slots ≤ R.slots)
    {g : JFrame} (hg : g.method = m) (hsize : g.locals.size = c.maxLocals) (hlen : ∀ sig, parseMethodDescriptor y.desc = some sig → argsL.length = sig.parameters.length) (hs : g.stack = argsL.reverse ++ .ref a :: rest) (hW : 2 * g.monitorRoom + (rest.map fun v => v.category).sum ≤ W) (hd : decode c.code g.pc = .ok (.invokevirtual index, 3))
    (K : ∀ T' h' v, own_S p l e R s m args below meth c n0 T' h' (k + rm.cells) (n + rm.slots) → Qf v h' → own_Ends p.tables e below P (T'.setTop { g with pc := g.pc + 3, stack := v.toList ++ rest })) : own_Ends p.tables e below P (T.setTop g) := by
  obtain ⟨locs, X, e1, N⟩ := Y
  obtain ⟨cell, q, q'⟩ := E.cell
  have wn' : (Jvm.Cond.instantiable y.cls nn).before #[] s = true := mvT hZ wn
  obtain ⟨ci, ki, hi1, hi2, -, hi4, -⟩ := Cond.instantiable_spec wn'
  have wse : (Jvm.Cond.selects y.cls y y).before args s = true := selects_self_of_private hi1 hi2 (by simpa using (Bool.or_eq_false_iff.mp hi4).1) (Cond.privateMethod_at (mvP hZ wp (args := #[]))) (mvT hZ win) hy
  obtain ⟨v, vm1, ⟨T', L', k', n'⟩, -, X', ⟨L, hQ, l1, y1, z1⟩, st⟩ := X.privateBack hx hown (mvT hZ wl) (mvT hZ win) wse (Cond.privateMethod_at (mvP hZ wp (args := #[]))) (mvT hZ wc) hy (backOf (W := W) (Q := fun v h L => Fr n0 L ∧ Qf v h) hM hZ wc wi hfr hlo) hg hsize (Steps.refl _) (by rw [e1]; exact q) q' hlen hs hW hd (fun _ _ => ⟨rfl, e1, hc, hsl⟩)
  dsimp only [Pt.U, Pt.locs, Pt.cells, Pt.slots] at X' l1 y1 z1 st hQ
  subst l1 y1 z1
  exact own_st (fun t q => st.trans q) (K T' _ v ⟨_, X', rfl, Fr.app N hQ.1⟩ hQ.2)
end OwnLayer
section OwnNums
def own_b (b : Bool) : Int32 := if b then 1 else 0
theorem own_b_t {b : Bool} (h : b = true) : own_b b = 1 := by subst h; rfl
theorem own_b_f {b : Bool} (h : b = false) : own_b b = 0 := by subst h; rfl
theorem own_b_0 (b : Bool) : own_b b = 0 ↔ b = false := by cases b <;> simp [own_b]
theorem own_b_n (b : Bool) : nar .boolean (own_b b) = own_b b := by cases b <;> rfl
theorem own_b_inj {a b : Bool} : own_b a = own_b b ↔ a = b := by cases a <;> cases b <;> simp [own_b]
theorem own_idx {j : Int32} {n : Nat} (h0 : 0 ≤ j.toInt) (h1 : j.toInt < (n : Int)) : ¬ j < 0 ∧ j.toNatClampNeg < n := by
  refine ⟨?_, ?_⟩
  · rw [Int32.lt_iff_toInt_lt]; show ¬ j.toInt < 0; omega
  · show j.toInt.toNat < n; omega
theorem own_ints {xs : List Int32} {i : Nat} (h : i < xs.length) : ∃ d, (xs.map Value.int)[i]? = some (.int d) ∧ d = xs[i] := ⟨xs[i], by simp [h], rfl⟩
theorem own_longs {xs : List Int64} {i : Nat} (h : i < xs.length) : ∃ d, (xs.map Value.long)[i]? = some (.long d) ∧ d = xs[i] := ⟨xs[i], by simp [h], rfl⟩
/-- p i, p (i + 1), .., k of them, all hold -/
def own_all (p : Nat → Bool) : Nat → Nat → Bool
  | _, 0 => true
  | i, k + 1 => p i && own_all p (i + 1) k
def own_g (xs : List Int32) (i : Nat) : Int32 := xs.getD i 0
theorem own_mget {xs : List Int32} {i : Nat} (h : i < (xs.map Value.int).length) : (xs.map Value.int)[i]? = some (.int (own_g xs i)) := by
  have h' : i < xs.length := by simpa using h
  simp [h', own_g]
theorem own_mlen {xs : List Int32} {i : Nat} (h : i < xs.length) : i < (xs.map Value.int).length := by simpa using h
theorem own_nat {j : Int32} {i : Nat} (h : j.toInt = (i : Int)) : ¬ j < 0 ∧ j.toNatClampNeg = i := by
  refine ⟨?_, ?_⟩
  · rw [Int32.lt_iff_toInt_lt]; show ¬ j.toInt < 0; omega
  · show j.toInt.toNat = i; omega
theorem own_inc {j : Int32} {i : Nat} (h : j.toInt = (i : Int)) (hi : i + 1 < 2147483648) : (j + 1).toInt = ((i + 1 : Nat) : Int) := by
  have := c_iadd j 1
  have h1 : (1 : Int32).toInt = 1 := rfl
  have := rng32 (j + 1)
  omega
theorem own_lt {x y : Int32} : x < y ↔ x.toInt < y.toInt := Int32.lt_iff_toInt_lt
theorem own_eq {x y : Int32} : x = y ↔ x.toInt = y.toInt := Int32.toInt_inj.symm
theorem own_tolen {ys : List Int32} {z : Int32} (h : z.toInt = (ys.length : Int)) : (ys.map Value.int).length.toInt32 = z := by
  have q := rng32 z
  have e : (ys.map Value.int).length = ys.length := by simp
  rw [own_eq, len_toInt (by rw [e]; omega), e, h]
theorem own_add {x y : Int32} {a b : Nat} (h1 : x.toInt = (a : Int)) (h2 : y.toInt = (b : Int)) (hi : a + b < 2147483648) : (x + y).toInt = ((a + b : Nat) : Int) := by
  have := c_iadd x y
  have := rng32 (x + y)
  omega
theorem own_sub {x y : Int32} {a b : Nat} (h1 : x.toInt = (a : Int)) (h2 : y.toInt = (b : Int)) : (x - y).toInt = (a : Int) - (b : Int) := by
  have := c_isub x y
  have := rng32 (x - y)
  have := rng32 x
  have := rng32 y
  omega
end OwnNums
def own_allow (c : Int64) : Bool := decide ((32 ≤ c.toInt ∧ c.toInt ≤ 55295) ∨ c.toInt = 10 ∨ c.toInt = 9 ∨ c.toInt = 13 ∨ (57344 ≤ c.toInt ∧ c.toInt ≤ 65533) ∨ (65536 ≤ c.toInt ∧ c.toInt ≤ 1114111))
theorem own_ltJ {x y : Int64} : x < y ↔ x.toInt < y.toInt := Int64.lt_iff_toInt_lt
theorem own_eqJ {x y : Int64} : x = y ↔ x.toInt = y.toInt := Int64.toInt_inj.symm
theorem own_l0 : (0 : Int64).toInt = 0 := by decide +kernel
theorem own_l9 : (9 : Int64).toInt = 9 := by decide +kernel
theorem own_l10 : (10 : Int64).toInt = 10 := by decide +kernel
theorem own_l13 : (13 : Int64).toInt = 13 := by decide +kernel
theorem own_l32 : (32 : Int64).toInt = 32 := by decide +kernel
theorem own_l55295 : (55295 : Int64).toInt = 55295 := by decide +kernel
theorem own_l55296 : (55296 : Int64).toInt = 55296 := by decide +kernel
theorem own_l57343 : (57343 : Int64).toInt = 57343 := by decide +kernel
theorem own_l57344 : (57344 : Int64).toInt = 57344 := by decide +kernel
theorem own_l65533 : (65533 : Int64).toInt = 65533 := by decide +kernel
theorem own_l65534 : (65534 : Int64).toInt = 65534 := by decide +kernel
theorem own_l65535 : (65535 : Int64).toInt = 65535 := by decide +kernel
theorem own_l65536 : (65536 : Int64).toInt = 65536 := by decide +kernel
theorem own_l1114111 : (1114111 : Int64).toInt = 1114111 := by decide +kernel
theorem own_l1114112 : (1114112 : Int64).toInt = 1114112 := by decide +kernel
theorem own_pn0 : plainName "com/example/deft_wiring/deftwiring/context/XmlScanner" = true := by first | (simp [plainName, overriddenIn]; done) | decide +kernel
theorem own_d1_0 : decode prog_76_method_29_code 0 = .ok (.lload_n 0, 1) := by decide +kernel
theorem own_d1_1 : decode prog_76_method_29_code 1 = .ok (.ldc2_w 218, 3) := by decide +kernel
theorem own_d1_4 : decode prog_76_method_29_code 4 = .ok (.lcmp, 1) := by decide +kernel
theorem own_d1_5 : decode prog_76_method_29_code 5 = .ok (.ifCond .lt 11, 3) := by decide +kernel
theorem own_d1_16 : decode prog_76_method_29_code 16 = .ok (.lload_n 0, 1) := by decide +kernel
theorem own_d1_17 : decode prog_76_method_29_code 17 = .ok (.ldc2_w 222, 3) := by decide +kernel
theorem own_d1_20 : decode prog_76_method_29_code 20 = .ok (.lcmp, 1) := by decide +kernel
theorem own_d1_21 : decode prog_76_method_29_code 21 = .ok (.ifCond .eq 51, 3) := by decide +kernel
theorem own_d1_72 : decode prog_76_method_29_code 72 = .ok (.iconst 1, 1) := by decide +kernel
theorem own_d1_73 : decode prog_76_method_29_code 73 = .ok (.goto 4, 3) := by decide +kernel
theorem own_d1_77 : decode prog_76_method_29_code 77 = .ok (.ireturn, 1) := by decide +kernel
theorem own_d1_24 : decode prog_76_method_29_code 24 = .ok (.lload_n 0, 1) := by decide +kernel
theorem own_d1_25 : decode prog_76_method_29_code 25 = .ok (.ldc2_w 224, 3) := by decide +kernel
theorem own_d1_28 : decode prog_76_method_29_code 28 = .ok (.lcmp, 1) := by decide +kernel
theorem own_d1_29 : decode prog_76_method_29_code 29 = .ok (.ifCond .eq 43, 3) := by decide +kernel
theorem own_d1_32 : decode prog_76_method_29_code 32 = .ok (.lload_n 0, 1) := by decide +kernel
theorem own_d1_33 : decode prog_76_method_29_code 33 = .ok (.ldc2_w 226, 3) := by decide +kernel
theorem own_d1_36 : decode prog_76_method_29_code 36 = .ok (.lcmp, 1) := by decide +kernel
theorem own_d1_37 : decode prog_76_method_29_code 37 = .ok (.ifCond .eq 35, 3) := by decide +kernel
theorem own_d1_40 : decode prog_76_method_29_code 40 = .ok (.lload_n 0, 1) := by decide +kernel
theorem own_d1_41 : decode prog_76_method_29_code 41 = .ok (.ldc2_w 228, 3) := by decide +kernel
theorem own_d1_44 : decode prog_76_method_29_code 44 = .ok (.lcmp, 1) := by decide +kernel
theorem own_d1_45 : decode prog_76_method_29_code 45 = .ok (.ifCond .lt 11, 3) := by decide +kernel
theorem own_d1_56 : decode prog_76_method_29_code 56 = .ok (.lload_n 0, 1) := by decide +kernel
theorem own_d1_57 : decode prog_76_method_29_code 57 = .ok (.ldc2_w 232, 3) := by decide +kernel
theorem own_d1_60 : decode prog_76_method_29_code 60 = .ok (.lcmp, 1) := by decide +kernel
theorem own_d1_61 : decode prog_76_method_29_code 61 = .ok (.ifCond .lt 15, 3) := by decide +kernel
theorem own_d1_76 : decode prog_76_method_29_code 76 = .ok (.iconst 0, 1) := by decide +kernel
theorem own_d1_64 : decode prog_76_method_29_code 64 = .ok (.lload_n 0, 1) := by decide +kernel
theorem own_d1_65 : decode prog_76_method_29_code 65 = .ok (.ldc2_w 161, 3) := by decide +kernel
theorem own_d1_68 : decode prog_76_method_29_code 68 = .ok (.lcmp, 1) := by decide +kernel
theorem own_d1_69 : decode prog_76_method_29_code 69 = .ok (.ifCond .gt 7, 3) := by decide +kernel
theorem own_d1_48 : decode prog_76_method_29_code 48 = .ok (.lload_n 0, 1) := by decide +kernel
theorem own_d1_49 : decode prog_76_method_29_code 49 = .ok (.ldc2_w 230, 3) := by decide +kernel
theorem own_d1_52 : decode prog_76_method_29_code 52 = .ok (.lcmp, 1) := by decide +kernel
theorem own_d1_53 : decode prog_76_method_29_code 53 = .ok (.ifCond .le 19, 3) := by decide +kernel
theorem own_d1_8 : decode prog_76_method_29_code 8 = .ok (.lload_n 0, 1) := by decide +kernel
theorem own_d1_9 : decode prog_76_method_29_code 9 = .ok (.ldc2_w 220, 3) := by decide +kernel
theorem own_d1_12 : decode prog_76_method_29_code 12 = .ok (.lcmp, 1) := by decide +kernel
theorem own_d1_13 : decode prog_76_method_29_code 13 = .ok (.ifCond .le 59, 3) := by decide +kernel
theorem own_ef_own_rm1 (m : MethodId) (x0 : Int64) : entryFrame m #[(.long x0)] 2 = mkF m 0 #[.val (.long x0), .second] [] := by first | (simp [entryFrame, mkF, argsToLocals, Value.category]; done) | rfl
def own_Q_own_rm1 (Z : State) (x0 : Int64) (h0 : Heap) (n0 : Nat) (v : Option Value) (h : Heap) : Prop := v = some (.int (own_b (own_allow x0))) ∧ h0 = h
set_option maxRecDepth 65536 in
set_option maxHeartbeats 40000000 in
theorem own_rm1 (l : Launch) (Z : State) (a0 : Array Value) (hw : ∀ d ∈ tables_1, d.before a0 Z = true) (ws : List Jvm.Cond) (x0 : Int64)  (h0 : Heap) (n0 : Nat)   :
    own_Con l Z (⟨"com/example/deft_wiring/deftwiring/context/XmlScanner", "isAllowed", "(J)Z"⟩ : MethodName) prog_76_method_29_code 2 (some .boolean) ws ({ frames := 0, cells := 0, slots := 0, locals := 0 } : Room) #[(.long x0)] h0 n0 (own_Q_own_rm1 Z x0 h0 n0) := by
  refine own_body (plainFor_of_name own_pn0) ?_
  intro p e s m below meth c T0 hx hZ hby hml hown hnm hret hlk Y0
  replace hown : s.vm.findClass "com/example/deft_wiring/deftwiring/context/XmlScanner" = some m.cls := hown
  replace hnm : meth.name = "isAllowed" := hnm
  rw [own_ef_own_rm1 m x0]
  show own_Ends _ _ _ _ (T0.setTop (mkF m 0 #[.val (.long x0), .second] []))
  refine own_st (fun t => XS.lloadN (own_here Y0) hx rfl (hb hby own_d1_0) rfl) ?_
  show own_Ends _ _ _ _ (T0.setTop (mkF m 1 #[.val (.long x0), .second] [(.long x0)]))
  refine own_ldcJ Y0 hx hZ hown (hw _ (List.mem_of_getElem? (i := 20) rfl)) rfl (hb hby own_d1_1) ?_
  show own_Ends _ _ _ _ (T0.setTop (mkF m 4 #[.val (.long x0), .second] [(.long (32 : Int64)), (.long x0)]))
  refine own_st (fun t => XS.lcmp (own_here Y0) hx rfl (hb hby own_d1_4) rfl) ?_
  show own_Ends _ _ _ _ (T0.setTop (mkF m 5 #[.val (.long x0), .second] [(.int (lcmpW x0 (32 : Int64)))]))
  by_cases c5_1 : x0 < (32 : Int64)
  ·
   refine own_st (fun t => XS.ifYes (own_here Y0) hx rfl (pc0 := 5) (pc' := 16) rfl (hb hby own_d1_5) rfl (XT.ll_lt_t c5_1) (by decide) (by decide)) ?_
   show own_Ends _ _ _ _ (T0.setTop (mkF m 16 #[.val (.long x0), .second] []))
   refine own_st (fun t => XS.lloadN (own_here Y0) hx rfl (hb hby own_d1_16) rfl) ?_
   show own_Ends _ _ _ _ (T0.setTop (mkF m 17 #[.val (.long x0), .second] [(.long x0)]))
   refine own_ldcJ Y0 hx hZ hown (hw _ (List.mem_of_getElem? (i := 21) rfl)) rfl (hb hby own_d1_17) ?_
   show own_Ends _ _ _ _ (T0.setTop (mkF m 20 #[.val (.long x0), .second] [(.long (10 : Int64)), (.long x0)]))
   refine own_st (fun t => XS.lcmp (own_here Y0) hx rfl (hb hby own_d1_20) rfl) ?_
   show own_Ends _ _ _ _ (T0.setTop (mkF m 21 #[.val (.long x0), .second] [(.int (lcmpW x0 (10 : Int64)))]))
   by_cases c21_2 : x0 = (10 : Int64)
   ·
    refine own_st (fun t => XS.ifYes (own_here Y0) hx rfl (pc0 := 21) (pc' := 72) rfl (hb hby own_d1_21) rfl (XT.ll_eq_t c21_2) (by decide) (by decide)) ?_
    show own_Ends _ _ _ _ (T0.setTop (mkF m 72 #[.val (.long x0), .second] []))
    refine own_st (fun t => XS.iconst (own_here Y0) hx rfl (hb hby own_d1_72) ) ?_
    show own_Ends _ _ _ _ (T0.setTop (mkF m 73 #[.val (.long x0), .second] [(.int (1 : Int32))]))
    refine own_st (fun t => XS.goto (own_here Y0) hx rfl (pc0 := 73) (pc' := 77) rfl (hb hby own_d1_73) (by decide) (by decide)) ?_
    show own_Ends _ _ _ _ (T0.setTop (mkF m 77 #[.val (.long x0), .second] [(.int (1 : Int32))]))
    refine own_retN Y0 hx hlk (t := .boolean) hret (by simp) (hb hby own_d1_77) (by decide) (by decide) ?_
    refine ⟨?_, rfl⟩
    simp only [own_ltJ, own_eqJ, own_l0, own_l9, own_l10, own_l13, own_l32, own_l55295, own_l55296, own_l57343, own_l57344, own_l65533, own_l65534, own_l65535, own_l65536, own_l1114111, own_l1114112] at c5_1 c21_2
    have : own_allow x0 = true := by simp only [own_allow, decide_eq_true_eq]; omega
    rw [this]; rfl
   ·
    refine own_st (fun t => XS.ifNo (own_here Y0) hx rfl (hb hby own_d1_21) rfl (XT.ll_eq_f c21_2)) ?_
    show own_Ends _ _ _ _ (T0.setTop (mkF m 24 #[.val (.long x0), .second] []))
    refine own_st (fun t => XS.lloadN (own_here Y0) hx rfl (hb hby own_d1_24) rfl) ?_
    show own_Ends _ _ _ _ (T0.setTop (mkF m 25 #[.val (.long x0), .second] [(.long x0)]))
    refine own_ldcJ Y0 hx hZ hown (hw _ (List.mem_of_getElem? (i := 22) rfl)) rfl (hb hby own_d1_25) ?_
    show own_Ends _ _ _ _ (T0.setTop (mkF m 28 #[.val (.long x0), .second] [(.long (9 : Int64)), (.long x0)]))
    refine own_st (fun t => XS.lcmp (own_here Y0) hx rfl (hb hby own_d1_28) rfl) ?_
    show own_Ends _ _ _ _ (T0.setTop (mkF m 29 #[.val (.long x0), .second] [(.int (lcmpW x0 (9 : Int64)))]))
    by_cases c29_3 : x0 = (9 : Int64)
    ·
     refine own_st (fun t => XS.ifYes (own_here Y0) hx rfl (pc0 := 29) (pc' := 72) rfl (hb hby own_d1_29) rfl (XT.ll_eq_t c29_3) (by decide) (by decide)) ?_
     show own_Ends _ _ _ _ (T0.setTop (mkF m 72 #[.val (.long x0), .second] []))
     refine own_st (fun t => XS.iconst (own_here Y0) hx rfl (hb hby own_d1_72) ) ?_
     show own_Ends _ _ _ _ (T0.setTop (mkF m 73 #[.val (.long x0), .second] [(.int (1 : Int32))]))
     refine own_st (fun t => XS.goto (own_here Y0) hx rfl (pc0 := 73) (pc' := 77) rfl (hb hby own_d1_73) (by decide) (by decide)) ?_
     show own_Ends _ _ _ _ (T0.setTop (mkF m 77 #[.val (.long x0), .second] [(.int (1 : Int32))]))
     refine own_retN Y0 hx hlk (t := .boolean) hret (by simp) (hb hby own_d1_77) (by decide) (by decide) ?_
     refine ⟨?_, rfl⟩
     simp only [own_ltJ, own_eqJ, own_l0, own_l9, own_l10, own_l13, own_l32, own_l55295, own_l55296, own_l57343, own_l57344, own_l65533, own_l65534, own_l65535, own_l65536, own_l1114111, own_l1114112] at c5_1 c21_2 c29_3
     have : own_allow x0 = true := by simp only [own_allow, decide_eq_true_eq]; omega
     rw [this]; rfl
    ·
     refine own_st (fun t => XS.ifNo (own_here Y0) hx rfl (hb hby own_d1_29) rfl (XT.ll_eq_f c29_3)) ?_
     show own_Ends _ _ _ _ (T0.setTop (mkF m 32 #[.val (.long x0), .second] []))
     refine own_st (fun t => XS.lloadN (own_here Y0) hx rfl (hb hby own_d1_32) rfl) ?_
     show own_Ends _ _ _ _ (T0.setTop (mkF m 33 #[.val (.long x0), .second] [(.long x0)]))
     refine own_ldcJ Y0 hx hZ hown (hw _ (List.mem_of_getElem? (i := 23) rfl)) rfl (hb hby own_d1_33) ?_
     show own_Ends _ _ _ _ (T0.setTop (mkF m 36 #[.val (.long x0), .second] [(.long (13 : Int64)), (.long x0)]))
     refine own_st (fun t => XS.lcmp (own_here Y0) hx rfl (hb hby own_d1_36) rfl) ?_
     show own_Ends _ _ _ _ (T0.setTop (mkF m 37 #[.val (.long x0), .second] [(.int (lcmpW x0 (13 : Int64)))]))
     by_cases c37_4 : x0 = (13 : Int64)
     ·
      refine own_st (fun t => XS.ifYes (own_here Y0) hx rfl (pc0 := 37) (pc' := 72) rfl (hb hby own_d1_37) rfl (XT.ll_eq_t c37_4) (by decide) (by decide)) ?_
      show own_Ends _ _ _ _ (T0.setTop (mkF m 72 #[.val (.long x0), .second] []))
      refine own_st (fun t => XS.iconst (own_here Y0) hx rfl (hb hby own_d1_72) ) ?_
      show own_Ends _ _ _ _ (T0.setTop (mkF m 73 #[.val (.long x0), .second] [(.int (1 : Int32))]))
      refine own_st (fun t => XS.goto (own_here Y0) hx rfl (pc0 := 73) (pc' := 77) rfl (hb hby own_d1_73) (by decide) (by decide)) ?_
      show own_Ends _ _ _ _ (T0.setTop (mkF m 77 #[.val (.long x0), .second] [(.int (1 : Int32))]))
      refine own_retN Y0 hx hlk (t := .boolean) hret (by simp) (hb hby own_d1_77) (by decide) (by decide) ?_
      refine ⟨?_, rfl⟩
      simp only [own_ltJ, own_eqJ, own_l0, own_l9, own_l10, own_l13, own_l32, own_l55295, own_l55296, own_l57343, own_l57344, own_l65533, own_l65534, own_l65535, own_l65536, own_l1114111, own_l1114112] at c5_1 c21_2 c29_3 c37_4
      have : own_allow x0 = true := by simp only [own_allow, decide_eq_true_eq]; omega
      rw [this]; rfl
     ·
      refine own_st (fun t => XS.ifNo (own_here Y0) hx rfl (hb hby own_d1_37) rfl (XT.ll_eq_f c37_4)) ?_
      show own_Ends _ _ _ _ (T0.setTop (mkF m 40 #[.val (.long x0), .second] []))
      refine own_st (fun t => XS.lloadN (own_here Y0) hx rfl (hb hby own_d1_40) rfl) ?_
      show own_Ends _ _ _ _ (T0.setTop (mkF m 41 #[.val (.long x0), .second] [(.long x0)]))
      refine own_ldcJ Y0 hx hZ hown (hw _ (List.mem_of_getElem? (i := 24) rfl)) rfl (hb hby own_d1_41) ?_
      show own_Ends _ _ _ _ (T0.setTop (mkF m 44 #[.val (.long x0), .second] [(.long (57344 : Int64)), (.long x0)]))
      refine own_st (fun t => XS.lcmp (own_here Y0) hx rfl (hb hby own_d1_44) rfl) ?_
      show own_Ends _ _ _ _ (T0.setTop (mkF m 45 #[.val (.long x0), .second] [(.int (lcmpW x0 (57344 : Int64)))]))
      by_cases c45_5 : x0 < (57344 : Int64)
      ·
       refine own_st (fun t => XS.ifYes (own_here Y0) hx rfl (pc0 := 45) (pc' := 56) rfl (hb hby own_d1_45) rfl (XT.ll_lt_t c45_5) (by decide) (by decide)) ?_
       show own_Ends _ _ _ _ (T0.setTop (mkF m 56 #[.val (.long x0), .second] []))
       refine own_st (fun t => XS.lloadN (own_here Y0) hx rfl (hb hby own_d1_56) rfl) ?_
       show own_Ends _ _ _ _ (T0.setTop (mkF m 57 #[.val (.long x0), .second] [(.long x0)]))
       refine own_ldcJ Y0 hx hZ hown (hw _ (List.mem_of_getElem? (i := 25) rfl)) rfl (hb hby own_d1_57) ?_
       show own_Ends _ _ _ _ (T0.setTop (mkF m 60 #[.val (.long x0), .second] [(.long (65536 : Int64)), (.long x0)]))
       refine own_st (fun t => XS.lcmp (own_here Y0) hx rfl (hb hby own_d1_60) rfl) ?_
       show own_Ends _ _ _ _ (T0.setTop (mkF m 61 #[.val (.long x0), .second] [(.int (lcmpW x0 (65536 : Int64)))]))
       by_cases c61_6 : x0 < (65536 : Int64)
       ·
        refine own_st (fun t => XS.ifYes (own_here Y0) hx rfl (pc0 := 61) (pc' := 76) rfl (hb hby own_d1_61) rfl (XT.ll_lt_t c61_6) (by decide) (by decide)) ?_
        show own_Ends _ _ _ _ (T0.setTop (mkF m 76 #[.val (.long x0), .second] []))
        refine own_st (fun t => XS.iconst (own_here Y0) hx rfl (hb hby own_d1_76) ) ?_
        show own_Ends _ _ _ _ (T0.setTop (mkF m 77 #[.val (.long x0), .second] [(.int (0 : Int32))]))
        refine own_retN Y0 hx hlk (t := .boolean) hret (by simp) (hb hby own_d1_77) (by decide) (by decide) ?_
        refine ⟨?_, rfl⟩
        simp only [own_ltJ, own_eqJ, own_l0, own_l9, own_l10, own_l13, own_l32, own_l55295, own_l55296, own_l57343, own_l57344, own_l65533, own_l65534, own_l65535, own_l65536, own_l1114111, own_l1114112] at c5_1 c21_2 c29_3 c37_4 c45_5 c61_6
        have : own_allow x0 = false := by simp only [own_allow, decide_eq_false_iff_not]; omega
        rw [this]; rfl
       ·
        refine own_st (fun t => XS.ifNo (own_here Y0) hx rfl (hb hby own_d1_61) rfl (XT.ll_lt_f c61_6)) ?_
        show own_Ends _ _ _ _ (T0.setTop (mkF m 64 #[.val (.long x0), .second] []))
        refine own_st (fun t => XS.lloadN (own_here Y0) hx rfl (hb hby own_d1_64) rfl) ?_
        show own_Ends _ _ _ _ (T0.setTop (mkF m 65 #[.val (.long x0), .second] [(.long x0)]))
        refine own_ldcJ Y0 hx hZ hown (hw _ (List.mem_of_getElem? (i := 33) rfl)) rfl (hb hby own_d1_65) ?_
        show own_Ends _ _ _ _ (T0.setTop (mkF m 68 #[.val (.long x0), .second] [(.long (1114111 : Int64)), (.long x0)]))
        refine own_st (fun t => XS.lcmp (own_here Y0) hx rfl (hb hby own_d1_68) rfl) ?_
        show own_Ends _ _ _ _ (T0.setTop (mkF m 69 #[.val (.long x0), .second] [(.int (lcmpW x0 (1114111 : Int64)))]))
        by_cases c69_7 : (1114111 : Int64) < x0
        ·
         refine own_st (fun t => XS.ifYes (own_here Y0) hx rfl (pc0 := 69) (pc' := 76) rfl (hb hby own_d1_69) rfl (XT.ll_gt_t c69_7) (by decide) (by decide)) ?_
         show own_Ends _ _ _ _ (T0.setTop (mkF m 76 #[.val (.long x0), .second] []))
         refine own_st (fun t => XS.iconst (own_here Y0) hx rfl (hb hby own_d1_76) ) ?_
         show own_Ends _ _ _ _ (T0.setTop (mkF m 77 #[.val (.long x0), .second] [(.int (0 : Int32))]))
         refine own_retN Y0 hx hlk (t := .boolean) hret (by simp) (hb hby own_d1_77) (by decide) (by decide) ?_
         refine ⟨?_, rfl⟩
         simp only [own_ltJ, own_eqJ, own_l0, own_l9, own_l10, own_l13, own_l32, own_l55295, own_l55296, own_l57343, own_l57344, own_l65533, own_l65534, own_l65535, own_l65536, own_l1114111, own_l1114112] at c5_1 c21_2 c29_3 c37_4 c45_5 c61_6 c69_7
         have : own_allow x0 = false := by simp only [own_allow, decide_eq_false_iff_not]; omega
         rw [this]; rfl
        ·
         refine own_st (fun t => XS.ifNo (own_here Y0) hx rfl (hb hby own_d1_69) rfl (XT.ll_gt_f c69_7)) ?_
         show own_Ends _ _ _ _ (T0.setTop (mkF m 72 #[.val (.long x0), .second] []))
         refine own_st (fun t => XS.iconst (own_here Y0) hx rfl (hb hby own_d1_72) ) ?_
         show own_Ends _ _ _ _ (T0.setTop (mkF m 73 #[.val (.long x0), .second] [(.int (1 : Int32))]))
         refine own_st (fun t => XS.goto (own_here Y0) hx rfl (pc0 := 73) (pc' := 77) rfl (hb hby own_d1_73) (by decide) (by decide)) ?_
         show own_Ends _ _ _ _ (T0.setTop (mkF m 77 #[.val (.long x0), .second] [(.int (1 : Int32))]))
         refine own_retN Y0 hx hlk (t := .boolean) hret (by simp) (hb hby own_d1_77) (by decide) (by decide) ?_
         refine ⟨?_, rfl⟩
         simp only [own_ltJ, own_eqJ, own_l0, own_l9, own_l10, own_l13, own_l32, own_l55295, own_l55296, own_l57343, own_l57344, own_l65533, own_l65534, own_l65535, own_l65536, own_l1114111, own_l1114112] at c5_1 c21_2 c29_3 c37_4 c45_5 c61_6 c69_7
         have : own_allow x0 = true := by simp only [own_allow, decide_eq_true_eq]; omega
         rw [this]; rfl
      ·
       refine own_st (fun t => XS.ifNo (own_here Y0) hx rfl (hb hby own_d1_45) rfl (XT.ll_lt_f c45_5)) ?_
       show own_Ends _ _ _ _ (T0.setTop (mkF m 48 #[.val (.long x0), .second] []))
       refine own_st (fun t => XS.lloadN (own_here Y0) hx rfl (hb hby own_d1_48) rfl) ?_
       show own_Ends _ _ _ _ (T0.setTop (mkF m 49 #[.val (.long x0), .second] [(.long x0)]))
       refine own_ldcJ Y0 hx hZ hown (hw _ (List.mem_of_getElem? (i := 32) rfl)) rfl (hb hby own_d1_49) ?_
       show own_Ends _ _ _ _ (T0.setTop (mkF m 52 #[.val (.long x0), .second] [(.long (65533 : Int64)), (.long x0)]))
       refine own_st (fun t => XS.lcmp (own_here Y0) hx rfl (hb hby own_d1_52) rfl) ?_
       show own_Ends _ _ _ _ (T0.setTop (mkF m 53 #[.val (.long x0), .second] [(.int (lcmpW x0 (65533 : Int64)))]))
       by_cases c53_8 : (65533 : Int64) < x0
       ·
        refine own_st (fun t => XS.ifNo (own_here Y0) hx rfl (hb hby own_d1_53) rfl (XT.ll_le_f c53_8)) ?_
        show own_Ends _ _ _ _ (T0.setTop (mkF m 56 #[.val (.long x0), .second] []))
        refine own_st (fun t => XS.lloadN (own_here Y0) hx rfl (hb hby own_d1_56) rfl) ?_
        show own_Ends _ _ _ _ (T0.setTop (mkF m 57 #[.val (.long x0), .second] [(.long x0)]))
        refine own_ldcJ Y0 hx hZ hown (hw _ (List.mem_of_getElem? (i := 25) rfl)) rfl (hb hby own_d1_57) ?_
        show own_Ends _ _ _ _ (T0.setTop (mkF m 60 #[.val (.long x0), .second] [(.long (65536 : Int64)), (.long x0)]))
        refine own_st (fun t => XS.lcmp (own_here Y0) hx rfl (hb hby own_d1_60) rfl) ?_
        show own_Ends _ _ _ _ (T0.setTop (mkF m 61 #[.val (.long x0), .second] [(.int (lcmpW x0 (65536 : Int64)))]))
        by_cases c61_9 : x0 < (65536 : Int64)
        ·
         refine own_st (fun t => XS.ifYes (own_here Y0) hx rfl (pc0 := 61) (pc' := 76) rfl (hb hby own_d1_61) rfl (XT.ll_lt_t c61_9) (by decide) (by decide)) ?_
         show own_Ends _ _ _ _ (T0.setTop (mkF m 76 #[.val (.long x0), .second] []))
         refine own_st (fun t => XS.iconst (own_here Y0) hx rfl (hb hby own_d1_76) ) ?_
         show own_Ends _ _ _ _ (T0.setTop (mkF m 77 #[.val (.long x0), .second] [(.int (0 : Int32))]))
         refine own_retN Y0 hx hlk (t := .boolean) hret (by simp) (hb hby own_d1_77) (by decide) (by decide) ?_
         refine ⟨?_, rfl⟩
         simp only [own_ltJ, own_eqJ, own_l0, own_l9, own_l10, own_l13, own_l32, own_l55295, own_l55296, own_l57343, own_l57344, own_l65533, own_l65534, own_l65535, own_l65536, own_l1114111, own_l1114112] at c5_1 c21_2 c29_3 c37_4 c45_5 c53_8 c61_9
         have : own_allow x0 = false := by simp only [own_allow, decide_eq_false_iff_not]; omega
         rw [this]; rfl
        ·
         refine own_st (fun t => XS.ifNo (own_here Y0) hx rfl (hb hby own_d1_61) rfl (XT.ll_lt_f c61_9)) ?_
         show own_Ends _ _ _ _ (T0.setTop (mkF m 64 #[.val (.long x0), .second] []))
         refine own_st (fun t => XS.lloadN (own_here Y0) hx rfl (hb hby own_d1_64) rfl) ?_
         show own_Ends _ _ _ _ (T0.setTop (mkF m 65 #[.val (.long x0), .second] [(.long x0)]))
         refine own_ldcJ Y0 hx hZ hown (hw _ (List.mem_of_getElem? (i := 33) rfl)) rfl (hb hby own_d1_65) ?_
         show own_Ends _ _ _ _ (T0.setTop (mkF m 68 #[.val (.long x0), .second] [(.long (1114111 : Int64)), (.long x0)]))
         refine own_st (fun t => XS.lcmp (own_here Y0) hx rfl (hb hby own_d1_68) rfl) ?_
         show own_Ends _ _ _ _ (T0.setTop (mkF m 69 #[.val (.long x0), .second] [(.int (lcmpW x0 (1114111 : Int64)))]))
         by_cases c69_10 : (1114111 : Int64) < x0
         ·
          refine own_st (fun t => XS.ifYes (own_here Y0) hx rfl (pc0 := 69) (pc' := 76) rfl (hb hby own_d1_69) rfl (XT.ll_gt_t c69_10) (by decide) (by decide)) ?_
          show own_Ends _ _ _ _ (T0.setTop (mkF m 76 #[.val (.long x0), .second] []))
          refine own_st (fun t => XS.iconst (own_here Y0) hx rfl (hb hby own_d1_76) ) ?_
          show own_Ends _ _ _ _ (T0.setTop (mkF m 77 #[.val (.long x0), .second] [(.int (0 : Int32))]))
          refine own_retN Y0 hx hlk (t := .boolean) hret (by simp) (hb hby own_d1_77) (by decide) (by decide) ?_
          refine ⟨?_, rfl⟩
          simp only [own_ltJ, own_eqJ, own_l0, own_l9, own_l10, own_l13, own_l32, own_l55295, own_l55296, own_l57343, own_l57344, own_l65533, own_l65534, own_l65535, own_l65536, own_l1114111, own_l1114112] at c5_1 c21_2 c29_3 c37_4 c45_5 c53_8 c61_9 c69_10
          have : own_allow x0 = false := by simp only [own_allow, decide_eq_false_iff_not]; omega
          rw [this]; rfl
         ·
          refine own_st (fun t => XS.ifNo (own_here Y0) hx rfl (hb hby own_d1_69) rfl (XT.ll_gt_f c69_10)) ?_
          show own_Ends _ _ _ _ (T0.setTop (mkF m 72 #[.val (.long x0), .second] []))
          refine own_st (fun t => XS.iconst (own_here Y0) hx rfl (hb hby own_d1_72) ) ?_
          show own_Ends _ _ _ _ (T0.setTop (mkF m 73 #[.val (.long x0), .second] [(.int (1 : Int32))]))
          refine own_st (fun t => XS.goto (own_here Y0) hx rfl (pc0 := 73) (pc' := 77) rfl (hb hby own_d1_73) (by decide) (by decide)) ?_
          show own_Ends _ _ _ _ (T0.setTop (mkF m 77 #[.val (.long x0), .second] [(.int (1 : Int32))]))
          refine own_retN Y0 hx hlk (t := .boolean) hret (by simp) (hb hby own_d1_77) (by decide) (by decide) ?_
          refine ⟨?_, rfl⟩
          simp only [own_ltJ, own_eqJ, own_l0, own_l9, own_l10, own_l13, own_l32, own_l55295, own_l55296, own_l57343, own_l57344, own_l65533, own_l65534, own_l65535, own_l65536, own_l1114111, own_l1114112] at c5_1 c21_2 c29_3 c37_4 c45_5 c53_8 c61_9 c69_10
          have : own_allow x0 = true := by simp only [own_allow, decide_eq_true_eq]; omega
          rw [this]; rfl
       ·
        refine own_st (fun t => XS.ifYes (own_here Y0) hx rfl (pc0 := 53) (pc' := 72) rfl (hb hby own_d1_53) rfl (XT.ll_le_t c53_8) (by decide) (by decide)) ?_
        show own_Ends _ _ _ _ (T0.setTop (mkF m 72 #[.val (.long x0), .second] []))
        refine own_st (fun t => XS.iconst (own_here Y0) hx rfl (hb hby own_d1_72) ) ?_
        show own_Ends _ _ _ _ (T0.setTop (mkF m 73 #[.val (.long x0), .second] [(.int (1 : Int32))]))
        refine own_st (fun t => XS.goto (own_here Y0) hx rfl (pc0 := 73) (pc' := 77) rfl (hb hby own_d1_73) (by decide) (by decide)) ?_
        show own_Ends _ _ _ _ (T0.setTop (mkF m 77 #[.val (.long x0), .second] [(.int (1 : Int32))]))
        refine own_retN Y0 hx hlk (t := .boolean) hret (by simp) (hb hby own_d1_77) (by decide) (by decide) ?_
        refine ⟨?_, rfl⟩
        simp only [own_ltJ, own_eqJ, own_l0, own_l9, own_l10, own_l13, own_l32, own_l55295, own_l55296, own_l57343, own_l57344, own_l65533, own_l65534, own_l65535, own_l65536, own_l1114111, own_l1114112] at c5_1 c21_2 c29_3 c37_4 c45_5 c53_8
        have : own_allow x0 = true := by simp only [own_allow, decide_eq_true_eq]; omega
        rw [this]; rfl
  ·
   refine own_st (fun t => XS.ifNo (own_here Y0) hx rfl (hb hby own_d1_5) rfl (XT.ll_lt_f c5_1)) ?_
   show own_Ends _ _ _ _ (T0.setTop (mkF m 8 #[.val (.long x0), .second] []))
   refine own_st (fun t => XS.lloadN (own_here Y0) hx rfl (hb hby own_d1_8) rfl) ?_
   show own_Ends _ _ _ _ (T0.setTop (mkF m 9 #[.val (.long x0), .second] [(.long x0)]))
   refine own_ldcJ Y0 hx hZ hown (hw _ (List.mem_of_getElem? (i := 30) rfl)) rfl (hb hby own_d1_9) ?_
   show own_Ends _ _ _ _ (T0.setTop (mkF m 12 #[.val (.long x0), .second] [(.long (55295 : Int64)), (.long x0)]))
   refine own_st (fun t => XS.lcmp (own_here Y0) hx rfl (hb hby own_d1_12) rfl) ?_
   show own_Ends _ _ _ _ (T0.setTop (mkF m 13 #[.val (.long x0), .second] [(.int (lcmpW x0 (55295 : Int64)))]))
   by_cases c13_11 : (55295 : Int64) < x0
   ·
    refine own_st (fun t => XS.ifNo (own_here Y0) hx rfl (hb hby own_d1_13) rfl (XT.ll_le_f c13_11)) ?_
    show own_Ends _ _ _ _ (T0.setTop (mkF m 16 #[.val (.long x0), .second] []))
    refine own_st (fun t => XS.lloadN (own_here Y0) hx rfl (hb hby own_d1_16) rfl) ?_
    show own_Ends _ _ _ _ (T0.setTop (mkF m 17 #[.val (.long x0), .second] [(.long x0)]))
    refine own_ldcJ Y0 hx hZ hown (hw _ (List.mem_of_getElem? (i := 21) rfl)) rfl (hb hby own_d1_17) ?_
    show own_Ends _ _ _ _ (T0.setTop (mkF m 20 #[.val (.long x0), .second] [(.long (10 : Int64)), (.long x0)]))
    refine own_st (fun t => XS.lcmp (own_here Y0) hx rfl (hb hby own_d1_20) rfl) ?_
    show own_Ends _ _ _ _ (T0.setTop (mkF m 21 #[.val (.long x0), .second] [(.int (lcmpW x0 (10 : Int64)))]))
    by_cases c21_12 : x0 = (10 : Int64)
    ·
     refine own_st (fun t => XS.ifYes (own_here Y0) hx rfl (pc0 := 21) (pc' := 72) rfl (hb hby own_d1_21) rfl (XT.ll_eq_t c21_12) (by decide) (by decide)) ?_
     show own_Ends _ _ _ _ (T0.setTop (mkF m 72 #[.val (.long x0), .second] []))
     refine own_st (fun t => XS.iconst (own_here Y0) hx rfl (hb hby own_d1_72) ) ?_
     show own_Ends _ _ _ _ (T0.setTop (mkF m 73 #[.val (.long x0), .second] [(.int (1 : Int32))]))
     refine own_st (fun t => XS.goto (own_here Y0) hx rfl (pc0 := 73) (pc' := 77) rfl (hb hby own_d1_73) (by decide) (by decide)) ?_
     show own_Ends _ _ _ _ (T0.setTop (mkF m 77 #[.val (.long x0), .second] [(.int (1 : Int32))]))
     refine own_retN Y0 hx hlk (t := .boolean) hret (by simp) (hb hby own_d1_77) (by decide) (by decide) ?_
     refine ⟨?_, rfl⟩
     simp only [own_ltJ, own_eqJ, own_l0, own_l9, own_l10, own_l13, own_l32, own_l55295, own_l55296, own_l57343, own_l57344, own_l65533, own_l65534, own_l65535, own_l65536, own_l1114111, own_l1114112] at c5_1 c13_11 c21_12
     have : own_allow x0 = true := by simp only [own_allow, decide_eq_true_eq]; omega
     rw [this]; rfl
    ·
     refine own_st (fun t => XS.ifNo (own_here Y0) hx rfl (hb hby own_d1_21) rfl (XT.ll_eq_f c21_12)) ?_
     show own_Ends _ _ _ _ (T0.setTop (mkF m 24 #[.val (.long x0), .second] []))
     refine own_st (fun t => XS.lloadN (own_here Y0) hx rfl (hb hby own_d1_24) rfl) ?_
     show own_Ends _ _ _ _ (T0.setTop (mkF m 25 #[.val (.long x0), .second] [(.long x0)]))
     refine own_ldcJ Y0 hx hZ hown (hw _ (List.mem_of_getElem? (i := 22) rfl)) rfl (hb hby own_d1_25) ?_
     show own_Ends _ _ _ _ (T0.setTop (mkF m 28 #[.val (.long x0), .second] [(.long (9 : Int64)), (.long x0)]))
     refine own_st (fun t => XS.lcmp (own_here Y0) hx rfl (hb hby own_d1_28) rfl) ?_
     show own_Ends _ _ _ _ (T0.setTop (mkF m 29 #[.val (.long x0), .second] [(.int (lcmpW x0 (9 : Int64)))]))
     by_cases c29_13 : x0 = (9 : Int64)
     ·
      refine own_st (fun t => XS.ifYes (own_here Y0) hx rfl (pc0 := 29) (pc' := 72) rfl (hb hby own_d1_29) rfl (XT.ll_eq_t c29_13) (by decide) (by decide)) ?_
      show own_Ends _ _ _ _ (T0.setTop (mkF m 72 #[.val (.long x0), .second] []))
      refine own_st (fun t => XS.iconst (own_here Y0) hx rfl (hb hby own_d1_72) ) ?_
      show own_Ends _ _ _ _ (T0.setTop (mkF m 73 #[.val (.long x0), .second] [(.int (1 : Int32))]))
      refine own_st (fun t => XS.goto (own_here Y0) hx rfl (pc0 := 73) (pc' := 77) rfl (hb hby own_d1_73) (by decide) (by decide)) ?_
      show own_Ends _ _ _ _ (T0.setTop (mkF m 77 #[.val (.long x0), .second] [(.int (1 : Int32))]))
      refine own_retN Y0 hx hlk (t := .boolean) hret (by simp) (hb hby own_d1_77) (by decide) (by decide) ?_
      refine ⟨?_, rfl⟩
      simp only [own_ltJ, own_eqJ, own_l0, own_l9, own_l10, own_l13, own_l32, own_l55295, own_l55296, own_l57343, own_l57344, own_l65533, own_l65534, own_l65535, own_l65536, own_l1114111, own_l1114112] at c5_1 c13_11 c21_12 c29_13
      have : own_allow x0 = true := by simp only [own_allow, decide_eq_true_eq]; omega
      rw [this]; rfl
     ·
      refine own_st (fun t => XS.ifNo (own_here Y0) hx rfl (hb hby own_d1_29) rfl (XT.ll_eq_f c29_13)) ?_
      show own_Ends _ _ _ _ (T0.setTop (mkF m 32 #[.val (.long x0), .second] []))
      refine own_st (fun t => XS.lloadN (own_here Y0) hx rfl (hb hby own_d1_32) rfl) ?_
      show own_Ends _ _ _ _ (T0.setTop (mkF m 33 #[.val (.long x0), .second] [(.long x0)]))
      refine own_ldcJ Y0 hx hZ hown (hw _ (List.mem_of_getElem? (i := 23) rfl)) rfl (hb hby own_d1_33) ?_
      show own_Ends _ _ _ _ (T0.setTop (mkF m 36 #[.val (.long x0), .second] [(.long (13 : Int64)), (.long x0)]))
      refine own_st (fun t => XS.lcmp (own_here Y0) hx rfl (hb hby own_d1_36) rfl) ?_
      show own_Ends _ _ _ _ (T0.setTop (mkF m 37 #[.val (.long x0), .second] [(.int (lcmpW x0 (13 : Int64)))]))
      by_cases c37_14 : x0 = (13 : Int64)
      ·
       refine own_st (fun t => XS.ifYes (own_here Y0) hx rfl (pc0 := 37) (pc' := 72) rfl (hb hby own_d1_37) rfl (XT.ll_eq_t c37_14) (by decide) (by decide)) ?_
       show own_Ends _ _ _ _ (T0.setTop (mkF m 72 #[.val (.long x0), .second] []))
       refine own_st (fun t => XS.iconst (own_here Y0) hx rfl (hb hby own_d1_72) ) ?_
       show own_Ends _ _ _ _ (T0.setTop (mkF m 73 #[.val (.long x0), .second] [(.int (1 : Int32))]))
       refine own_st (fun t => XS.goto (own_here Y0) hx rfl (pc0 := 73) (pc' := 77) rfl (hb hby own_d1_73) (by decide) (by decide)) ?_
       show own_Ends _ _ _ _ (T0.setTop (mkF m 77 #[.val (.long x0), .second] [(.int (1 : Int32))]))
       refine own_retN Y0 hx hlk (t := .boolean) hret (by simp) (hb hby own_d1_77) (by decide) (by decide) ?_
       refine ⟨?_, rfl⟩
       simp only [own_ltJ, own_eqJ, own_l0, own_l9, own_l10, own_l13, own_l32, own_l55295, own_l55296, own_l57343, own_l57344, own_l65533, own_l65534, own_l65535, own_l65536, own_l1114111, own_l1114112] at c5_1 c13_11 c21_12 c29_13 c37_14
       have : own_allow x0 = true := by simp only [own_allow, decide_eq_true_eq]; omega
       rw [this]; rfl
      ·
       refine own_st (fun t => XS.ifNo (own_here Y0) hx rfl (hb hby own_d1_37) rfl (XT.ll_eq_f c37_14)) ?_
       show own_Ends _ _ _ _ (T0.setTop (mkF m 40 #[.val (.long x0), .second] []))
       refine own_st (fun t => XS.lloadN (own_here Y0) hx rfl (hb hby own_d1_40) rfl) ?_
       show own_Ends _ _ _ _ (T0.setTop (mkF m 41 #[.val (.long x0), .second] [(.long x0)]))
       refine own_ldcJ Y0 hx hZ hown (hw _ (List.mem_of_getElem? (i := 24) rfl)) rfl (hb hby own_d1_41) ?_
       show own_Ends _ _ _ _ (T0.setTop (mkF m 44 #[.val (.long x0), .second] [(.long (57344 : Int64)), (.long x0)]))
       refine own_st (fun t => XS.lcmp (own_here Y0) hx rfl (hb hby own_d1_44) rfl) ?_
       show own_Ends _ _ _ _ (T0.setTop (mkF m 45 #[.val (.long x0), .second] [(.int (lcmpW x0 (57344 : Int64)))]))
       by_cases c45_15 : x0 < (57344 : Int64)
       ·
        refine own_st (fun t => XS.ifYes (own_here Y0) hx rfl (pc0 := 45) (pc' := 56) rfl (hb hby own_d1_45) rfl (XT.ll_lt_t c45_15) (by decide) (by decide)) ?_
        show own_Ends _ _ _ _ (T0.setTop (mkF m 56 #[.val (.long x0), .second] []))
        refine own_st (fun t => XS.lloadN (own_here Y0) hx rfl (hb hby own_d1_56) rfl) ?_
        show own_Ends _ _ _ _ (T0.setTop (mkF m 57 #[.val (.long x0), .second] [(.long x0)]))
        refine own_ldcJ Y0 hx hZ hown (hw _ (List.mem_of_getElem? (i := 25) rfl)) rfl (hb hby own_d1_57) ?_
        show own_Ends _ _ _ _ (T0.setTop (mkF m 60 #[.val (.long x0), .second] [(.long (65536 : Int64)), (.long x0)]))
        refine own_st (fun t => XS.lcmp (own_here Y0) hx rfl (hb hby own_d1_60) rfl) ?_
        show own_Ends _ _ _ _ (T0.setTop (mkF m 61 #[.val (.long x0), .second] [(.int (lcmpW x0 (65536 : Int64)))]))
        by_cases c61_16 : x0 < (65536 : Int64)
        ·
         refine own_st (fun t => XS.ifYes (own_here Y0) hx rfl (pc0 := 61) (pc' := 76) rfl (hb hby own_d1_61) rfl (XT.ll_lt_t c61_16) (by decide) (by decide)) ?_
         show own_Ends _ _ _ _ (T0.setTop (mkF m 76 #[.val (.long x0), .second] []))
         refine own_st (fun t => XS.iconst (own_here Y0) hx rfl (hb hby own_d1_76) ) ?_
         show own_Ends _ _ _ _ (T0.setTop (mkF m 77 #[.val (.long x0), .second] [(.int (0 : Int32))]))
         refine own_retN Y0 hx hlk (t := .boolean) hret (by simp) (hb hby own_d1_77) (by decide) (by decide) ?_
         refine ⟨?_, rfl⟩
         simp only [own_ltJ, own_eqJ, own_l0, own_l9, own_l10, own_l13, own_l32, own_l55295, own_l55296, own_l57343, own_l57344, own_l65533, own_l65534, own_l65535, own_l65536, own_l1114111, own_l1114112] at c5_1 c13_11 c21_12 c29_13 c37_14 c45_15 c61_16
         have : own_allow x0 = false := by simp only [own_allow, decide_eq_false_iff_not]; omega
         rw [this]; rfl
        ·
         refine own_st (fun t => XS.ifNo (own_here Y0) hx rfl (hb hby own_d1_61) rfl (XT.ll_lt_f c61_16)) ?_
         show own_Ends _ _ _ _ (T0.setTop (mkF m 64 #[.val (.long x0), .second] []))
         refine own_st (fun t => XS.lloadN (own_here Y0) hx rfl (hb hby own_d1_64) rfl) ?_
         show own_Ends _ _ _ _ (T0.setTop (mkF m 65 #[.val (.long x0), .second] [(.long x0)]))
         refine own_ldcJ Y0 hx hZ hown (hw _ (List.mem_of_getElem? (i := 33) rfl)) rfl (hb hby own_d1_65) ?_
         show own_Ends _ _ _ _ (T0.setTop (mkF m 68 #[.val (.long x0), .second] [(.long (1114111 : Int64)), (.long x0)]))
         refine own_st (fun t => XS.lcmp (own_here Y0) hx rfl (hb hby own_d1_68) rfl) ?_
         show own_Ends _ _ _ _ (T0.setTop (mkF m 69 #[.val (.long x0), .second] [(.int (lcmpW x0 (1114111 : Int64)))]))
         by_cases c69_17 : (1114111 : Int64) < x0
         ·
          refine own_st (fun t => XS.ifYes (own_here Y0) hx rfl (pc0 := 69) (pc' := 76) rfl (hb hby own_d1_69) rfl (XT.ll_gt_t c69_17) (by decide) (by decide)) ?_
          show own_Ends _ _ _ _ (T0.setTop (mkF m 76 #[.val (.long x0), .second] []))
          refine own_st (fun t => XS.iconst (own_here Y0) hx rfl (hb hby own_d1_76) ) ?_
          show own_Ends _ _ _ _ (T0.setTop (mkF m 77 #[.val (.long x0), .second] [(.int (0 : Int32))]))
          refine own_retN Y0 hx hlk (t := .boolean) hret (by simp) (hb hby own_d1_77) (by decide) (by decide) ?_
          refine ⟨?_, rfl⟩
          simp only [own_ltJ, own_eqJ, own_l0, own_l9, own_l10, own_l13, own_l32, own_l55295, own_l55296, own_l57343, own_l57344, own_l65533, own_l65534, own_l65535, own_l65536, own_l1114111, own_l1114112] at c5_1 c13_11 c21_12 c29_13 c37_14 c45_15 c61_16 c69_17
          have : own_allow x0 = false := by simp only [own_allow, decide_eq_false_iff_not]; omega
          rw [this]; rfl
         ·
          refine own_st (fun t => XS.ifNo (own_here Y0) hx rfl (hb hby own_d1_69) rfl (XT.ll_gt_f c69_17)) ?_
          show own_Ends _ _ _ _ (T0.setTop (mkF m 72 #[.val (.long x0), .second] []))
          refine own_st (fun t => XS.iconst (own_here Y0) hx rfl (hb hby own_d1_72) ) ?_
          show own_Ends _ _ _ _ (T0.setTop (mkF m 73 #[.val (.long x0), .second] [(.int (1 : Int32))]))
          refine own_st (fun t => XS.goto (own_here Y0) hx rfl (pc0 := 73) (pc' := 77) rfl (hb hby own_d1_73) (by decide) (by decide)) ?_
          show own_Ends _ _ _ _ (T0.setTop (mkF m 77 #[.val (.long x0), .second] [(.int (1 : Int32))]))
          refine own_retN Y0 hx hlk (t := .boolean) hret (by simp) (hb hby own_d1_77) (by decide) (by decide) ?_
          refine ⟨?_, rfl⟩
          simp only [own_ltJ, own_eqJ, own_l0, own_l9, own_l10, own_l13, own_l32, own_l55295, own_l55296, own_l57343, own_l57344, own_l65533, own_l65534, own_l65535, own_l65536, own_l1114111, own_l1114112] at c5_1 c13_11 c21_12 c29_13 c37_14 c45_15 c61_16 c69_17
          have : own_allow x0 = true := by simp only [own_allow, decide_eq_true_eq]; omega
          rw [this]; rfl
       ·
        refine own_st (fun t => XS.ifNo (own_here Y0) hx rfl (hb hby own_d1_45) rfl (XT.ll_lt_f c45_15)) ?_
        show own_Ends _ _ _ _ (T0.setTop (mkF m 48 #[.val (.long x0), .second] []))
        refine own_st (fun t => XS.lloadN (own_here Y0) hx rfl (hb hby own_d1_48) rfl) ?_
        show own_Ends _ _ _ _ (T0.setTop (mkF m 49 #[.val (.long x0), .second] [(.long x0)]))
        refine own_ldcJ Y0 hx hZ hown (hw _ (List.mem_of_getElem? (i := 32) rfl)) rfl (hb hby own_d1_49) ?_
        show own_Ends _ _ _ _ (T0.setTop (mkF m 52 #[.val (.long x0), .second] [(.long (65533 : Int64)), (.long x0)]))
        refine own_st (fun t => XS.lcmp (own_here Y0) hx rfl (hb hby own_d1_52) rfl) ?_
        show own_Ends _ _ _ _ (T0.setTop (mkF m 53 #[.val (.long x0), .second] [(.int (lcmpW x0 (65533 : Int64)))]))
        by_cases c53_18 : (65533 : Int64) < x0
        ·
         refine own_st (fun t => XS.ifNo (own_here Y0) hx rfl (hb hby own_d1_53) rfl (XT.ll_le_f c53_18)) ?_
         show own_Ends _ _ _ _ (T0.setTop (mkF m 56 #[.val (.long x0), .second] []))
         refine own_st (fun t => XS.lloadN (own_here Y0) hx rfl (hb hby own_d1_56) rfl) ?_
         show own_Ends _ _ _ _ (T0.setTop (mkF m 57 #[.val (.long x0), .second] [(.long x0)]))
         refine own_ldcJ Y0 hx hZ hown (hw _ (List.mem_of_getElem? (i := 25) rfl)) rfl (hb hby own_d1_57) ?_
         show own_Ends _ _ _ _ (T0.setTop (mkF m 60 #[.val (.long x0), .second] [(.long (65536 : Int64)), (.long x0)]))
         refine own_st (fun t => XS.lcmp (own_here Y0) hx rfl (hb hby own_d1_60) rfl) ?_
         show own_Ends _ _ _ _ (T0.setTop (mkF m 61 #[.val (.long x0), .second] [(.int (lcmpW x0 (65536 : Int64)))]))
         by_cases c61_19 : x0 < (65536 : Int64)
         ·
          refine own_st (fun t => XS.ifYes (own_here Y0) hx rfl (pc0 := 61) (pc' := 76) rfl (hb hby own_d1_61) rfl (XT.ll_lt_t c61_19) (by decide) (by decide)) ?_
          show own_Ends _ _ _ _ (T0.setTop (mkF m 76 #[.val (.long x0), .second] []))
          refine own_st (fun t => XS.iconst (own_here Y0) hx rfl (hb hby own_d1_76) ) ?_
          show own_Ends _ _ _ _ (T0.setTop (mkF m 77 #[.val (.long x0), .second] [(.int (0 : Int32))]))
          refine own_retN Y0 hx hlk (t := .boolean) hret (by simp) (hb hby own_d1_77) (by decide) (by decide) ?_
          refine ⟨?_, rfl⟩
          simp only [own_ltJ, own_eqJ, own_l0, own_l9, own_l10, own_l13, own_l32, own_l55295, own_l55296, own_l57343, own_l57344, own_l65533, own_l65534, own_l65535, own_l65536, own_l1114111, own_l1114112] at c5_1 c13_11 c21_12 c29_13 c37_14 c45_15 c53_18 c61_19
          have : own_allow x0 = false := by simp only [own_allow, decide_eq_false_iff_not]; omega
          rw [this]; rfl
         ·
          refine own_st (fun t => XS.ifNo (own_here Y0) hx rfl (hb hby own_d1_61) rfl (XT.ll_lt_f c61_19)) ?_
          show own_Ends _ _ _ _ (T0.setTop (mkF m 64 #[.val (.long x0), .second] []))
          refine own_st (fun t => XS.lloadN (own_here Y0) hx rfl (hb hby own_d1_64) rfl) ?_
          show own_Ends _ _ _ _ (T0.setTop (mkF m 65 #[.val (.long x0), .second] [(.long x0)]))
          refine own_ldcJ Y0 hx hZ hown (hw _ (List.mem_of_getElem? (i := 33) rfl)) rfl (hb hby own_d1_65) ?_
          show own_Ends _ _ _ _ (T0.setTop (mkF m 68 #[.val (.long x0), .second] [(.long (1114111 : Int64)), (.long x0)]))
          refine own_st (fun t => XS.lcmp (own_here Y0) hx rfl (hb hby own_d1_68) rfl) ?_
          show own_Ends _ _ _ _ (T0.setTop (mkF m 69 #[.val (.long x0), .second] [(.int (lcmpW x0 (1114111 : Int64)))]))
          by_cases c69_20 : (1114111 : Int64) < x0
          ·
           refine own_st (fun t => XS.ifYes (own_here Y0) hx rfl (pc0 := 69) (pc' := 76) rfl (hb hby own_d1_69) rfl (XT.ll_gt_t c69_20) (by decide) (by decide)) ?_
           show own_Ends _ _ _ _ (T0.setTop (mkF m 76 #[.val (.long x0), .second] []))
           refine own_st (fun t => XS.iconst (own_here Y0) hx rfl (hb hby own_d1_76) ) ?_
           show own_Ends _ _ _ _ (T0.setTop (mkF m 77 #[.val (.long x0), .second] [(.int (0 : Int32))]))
           refine own_retN Y0 hx hlk (t := .boolean) hret (by simp) (hb hby own_d1_77) (by decide) (by decide) ?_
           refine ⟨?_, rfl⟩
           simp only [own_ltJ, own_eqJ, own_l0, own_l9, own_l10, own_l13, own_l32, own_l55295, own_l55296, own_l57343, own_l57344, own_l65533, own_l65534, own_l65535, own_l65536, own_l1114111, own_l1114112] at c5_1 c13_11 c21_12 c29_13 c37_14 c45_15 c53_18 c61_19 c69_20
           have : own_allow x0 = false := by simp only [own_allow, decide_eq_false_iff_not]; omega
           rw [this]; rfl
          ·
           refine own_st (fun t => XS.ifNo (own_here Y0) hx rfl (hb hby own_d1_69) rfl (XT.ll_gt_f c69_20)) ?_
           show own_Ends _ _ _ _ (T0.setTop (mkF m 72 #[.val (.long x0), .second] []))
           refine own_st (fun t => XS.iconst (own_here Y0) hx rfl (hb hby own_d1_72) ) ?_
           show own_Ends _ _ _ _ (T0.setTop (mkF m 73 #[.val (.long x0), .second] [(.int (1 : Int32))]))
           refine own_st (fun t => XS.goto (own_here Y0) hx rfl (pc0 := 73) (pc' := 77) rfl (hb hby own_d1_73) (by decide) (by decide)) ?_
           show own_Ends _ _ _ _ (T0.setTop (mkF m 77 #[.val (.long x0), .second] [(.int (1 : Int32))]))
           refine own_retN Y0 hx hlk (t := .boolean) hret (by simp) (hb hby own_d1_77) (by decide) (by decide) ?_
           refine ⟨?_, rfl⟩
           simp only [own_ltJ, own_eqJ, own_l0, own_l9, own_l10, own_l13, own_l32, own_l55295, own_l55296, own_l57343, own_l57344, own_l65533, own_l65534, own_l65535, own_l65536, own_l1114111, own_l1114112] at c5_1 c13_11 c21_12 c29_13 c37_14 c45_15 c53_18 c61_19 c69_20
           have : own_allow x0 = true := by simp only [own_allow, decide_eq_true_eq]; omega
           rw [this]; rfl
        ·
         refine own_st (fun t => XS.ifYes (own_here Y0) hx rfl (pc0 := 53) (pc' := 72) rfl (hb hby own_d1_53) rfl (XT.ll_le_t c53_18) (by decide) (by decide)) ?_
         show own_Ends _ _ _ _ (T0.setTop (mkF m 72 #[.val (.long x0), .second] []))
         refine own_st (fun t => XS.iconst (own_here Y0) hx rfl (hb hby own_d1_72) ) ?_
         show own_Ends _ _ _ _ (T0.setTop (mkF m 73 #[.val (.long x0), .second] [(.int (1 : Int32))]))
         refine own_st (fun t => XS.goto (own_here Y0) hx rfl (pc0 := 73) (pc' := 77) rfl (hb hby own_d1_73) (by decide) (by decide)) ?_
         show own_Ends _ _ _ _ (T0.setTop (mkF m 77 #[.val (.long x0), .second] [(.int (1 : Int32))]))
         refine own_retN Y0 hx hlk (t := .boolean) hret (by simp) (hb hby own_d1_77) (by decide) (by decide) ?_
         refine ⟨?_, rfl⟩
         simp only [own_ltJ, own_eqJ, own_l0, own_l9, own_l10, own_l13, own_l32, own_l55295, own_l55296, own_l57343, own_l57344, own_l65533, own_l65534, own_l65535, own_l65536, own_l1114111, own_l1114112] at c5_1 c13_11 c21_12 c29_13 c37_14 c45_15 c53_18
         have : own_allow x0 = true := by simp only [own_allow, decide_eq_true_eq]; omega
         rw [this]; rfl
   ·
    refine own_st (fun t => XS.ifYes (own_here Y0) hx rfl (pc0 := 13) (pc' := 72) rfl (hb hby own_d1_13) rfl (XT.ll_le_t c13_11) (by decide) (by decide)) ?_
    show own_Ends _ _ _ _ (T0.setTop (mkF m 72 #[.val (.long x0), .second] []))
    refine own_st (fun t => XS.iconst (own_here Y0) hx rfl (hb hby own_d1_72) ) ?_
    show own_Ends _ _ _ _ (T0.setTop (mkF m 73 #[.val (.long x0), .second] [(.int (1 : Int32))]))
    refine own_st (fun t => XS.goto (own_here Y0) hx rfl (pc0 := 73) (pc' := 77) rfl (hb hby own_d1_73) (by decide) (by decide)) ?_
    show own_Ends _ _ _ _ (T0.setTop (mkF m 77 #[.val (.long x0), .second] [(.int (1 : Int32))]))
    refine own_retN Y0 hx hlk (t := .boolean) hret (by simp) (hb hby own_d1_77) (by decide) (by decide) ?_
    refine ⟨?_, rfl⟩
    simp only [own_ltJ, own_eqJ, own_l0, own_l9, own_l10, own_l13, own_l32, own_l55295, own_l55296, own_l57343, own_l57344, own_l65533, own_l65534, own_l65535, own_l65536, own_l1114111, own_l1114112] at c5_1 c13_11
    have : own_allow x0 = true := by simp only [own_allow, decide_eq_true_eq]; omega
    rw [this]; rfl
theorem own_pn1 : plainName "com/example/deft_wiring/deftwiring/context/XmlScannerIsAllowedPinLaw" = true := by first | (simp [plainName, overriddenIn]; done) | decide +kernel
theorem own_d2_0 : decode method_2_code 0 = .ok (.lload_n 0, 1) := by decide +kernel
theorem own_d2_1 : decode method_2_code 1 = .ok (.lconst 0, 1) := by decide +kernel
theorem own_d2_2 : decode method_2_code 2 = .ok (.lcmp, 1) := by decide +kernel
theorem own_d2_3 : decode method_2_code 3 = .ok (.ifCond .ge 5, 3) := by decide +kernel
theorem own_d2_6 : decode method_2_code 6 = .ok (.iconst 1, 1) := by decide +kernel
theorem own_d2_7 : decode method_2_code 7 = .ok (.ireturn, 1) := by decide +kernel
theorem own_d2_8 : decode method_2_code 8 = .ok (.lload_n 0, 1) := by decide +kernel
theorem own_d2_9 : decode method_2_code 9 = .ok (.ldc2_w 7, 3) := by decide +kernel
theorem own_d2_12 : decode method_2_code 12 = .ok (.lcmp, 1) := by decide +kernel
theorem own_d2_13 : decode method_2_code 13 = .ok (.ifCond .le 5, 3) := by decide +kernel
theorem own_d2_16 : decode method_2_code 16 = .ok (.iconst 1, 1) := by decide +kernel
theorem own_d2_17 : decode method_2_code 17 = .ok (.ireturn, 1) := by decide +kernel
theorem own_d2_18 : decode method_2_code 18 = .ok (.lload_n 0, 1) := by decide +kernel
theorem own_d2_19 : decode method_2_code 19 = .ok (.ldc2_w 9, 3) := by decide +kernel
theorem own_d2_22 : decode method_2_code 22 = .ok (.lcmp, 1) := by decide +kernel
theorem own_d2_23 : decode method_2_code 23 = .ok (.ifCond .ge 33, 3) := by decide +kernel
theorem own_d2_26 : decode method_2_code 26 = .ok (.lload_n 0, 1) := by decide +kernel
theorem own_d2_27 : decode method_2_code 27 = .ok (.ldc2_w 11, 3) := by decide +kernel
theorem own_d2_30 : decode method_2_code 30 = .ok (.lcmp, 1) := by decide +kernel
theorem own_d2_31 : decode method_2_code 31 = .ok (.ifCond .eq 23, 3) := by decide +kernel
theorem own_d2_54 : decode method_2_code 54 = .ok (.iconst 0, 1) := by decide +kernel
theorem own_d2_55 : decode method_2_code 55 = .ok (.ireturn, 1) := by decide +kernel
theorem own_d2_34 : decode method_2_code 34 = .ok (.lload_n 0, 1) := by decide +kernel
theorem own_d2_35 : decode method_2_code 35 = .ok (.ldc2_w 13, 3) := by decide +kernel
theorem own_d2_38 : decode method_2_code 38 = .ok (.lcmp, 1) := by decide +kernel
theorem own_d2_39 : decode method_2_code 39 = .ok (.ifCond .eq 15, 3) := by decide +kernel
theorem own_d2_42 : decode method_2_code 42 = .ok (.lload_n 0, 1) := by decide +kernel
theorem own_d2_43 : decode method_2_code 43 = .ok (.ldc2_w 15, 3) := by decide +kernel
theorem own_d2_46 : decode method_2_code 46 = .ok (.lcmp, 1) := by decide +kernel
theorem own_d2_47 : decode method_2_code 47 = .ok (.ifCond .eq 7, 3) := by decide +kernel
theorem own_d2_50 : decode method_2_code 50 = .ok (.iconst 1, 1) := by decide +kernel
theorem own_d2_51 : decode method_2_code 51 = .ok (.goto 4, 3) := by decide +kernel
theorem own_d2_56 : decode method_2_code 56 = .ok (.lload_n 0, 1) := by decide +kernel
theorem own_d2_57 : decode method_2_code 57 = .ok (.ldc2_w 17, 3) := by decide +kernel
theorem own_d2_60 : decode method_2_code 60 = .ok (.lcmp, 1) := by decide +kernel
theorem own_d2_61 : decode method_2_code 61 = .ok (.ifCond .lt 13, 3) := by decide +kernel
theorem own_d2_74 : decode method_2_code 74 = .ok (.lload_n 0, 1) := by decide +kernel
theorem own_d2_75 : decode method_2_code 75 = .ok (.ldc2_w 21, 3) := by decide +kernel
theorem own_d2_78 : decode method_2_code 78 = .ok (.lcmp, 1) := by decide +kernel
theorem own_d2_79 : decode method_2_code 79 = .ok (.ifCond .eq 11, 3) := by decide +kernel
theorem own_d2_90 : decode method_2_code 90 = .ok (.iconst 1, 1) := by decide +kernel
theorem own_d2_91 : decode method_2_code 91 = .ok (.goto 4, 3) := by decide +kernel
theorem own_d2_95 : decode method_2_code 95 = .ok (.ireturn, 1) := by decide +kernel
theorem own_d2_82 : decode method_2_code 82 = .ok (.lload_n 0, 1) := by decide +kernel
theorem own_d2_83 : decode method_2_code 83 = .ok (.ldc2_w 23, 3) := by decide +kernel
theorem own_d2_86 : decode method_2_code 86 = .ok (.lcmp, 1) := by decide +kernel
theorem own_d2_87 : decode method_2_code 87 = .ok (.ifCond .ne 7, 3) := by decide +kernel
theorem own_d2_94 : decode method_2_code 94 = .ok (.iconst 0, 1) := by decide +kernel
theorem own_d2_64 : decode method_2_code 64 = .ok (.lload_n 0, 1) := by decide +kernel
theorem own_d2_65 : decode method_2_code 65 = .ok (.ldc2_w 19, 3) := by decide +kernel
theorem own_d2_68 : decode method_2_code 68 = .ok (.lcmp, 1) := by decide +kernel
theorem own_d2_69 : decode method_2_code 69 = .ok (.ifCond .gt 5, 3) := by decide +kernel
theorem own_d2_72 : decode method_2_code 72 = .ok (.iconst 1, 1) := by decide +kernel
theorem own_d2_73 : decode method_2_code 73 = .ok (.ireturn, 1) := by decide +kernel
theorem own_ef_own_rm2 (m : MethodId) (x0 : Int64) : entryFrame m #[(.long x0)] 2 = mkF m 0 #[.val (.long x0), .second] [] := by first | (simp [entryFrame, mkF, argsToLocals, Value.category]; done) | rfl
def own_Q_own_rm2 (Z : State) (x0 : Int64) (h0 : Heap) (n0 : Nat) (v : Option Value) (h : Heap) : Prop := v = some (.int (own_b (!own_allow x0))) ∧ h0 = h
set_option maxRecDepth 65536 in
set_option maxHeartbeats 40000000 in
theorem own_rm2 (l : Launch) (Z : State) (a0 : Array Value) (hw : ∀ d ∈ tables_1, d.before a0 Z = true) (ws : List Jvm.Cond) (x0 : Int64)  (h0 : Heap) (n0 : Nat)   :
    own_Con l Z (⟨"com/example/deft_wiring/deftwiring/context/XmlScannerIsAllowedPinLaw", "forbidden", "(J)Z"⟩ : MethodName) method_2_code 2 (some .boolean) ws ({ frames := 0, cells := 0, slots := 0, locals := 0 } : Room) #[(.long x0)] h0 n0 (own_Q_own_rm2 Z x0 h0 n0) := by
  refine own_body (plainFor_of_name own_pn1) ?_
  intro p e s m below meth c T0 hx hZ hby hml hown hnm hret hlk Y0
  replace hown : s.vm.findClass "com/example/deft_wiring/deftwiring/context/XmlScannerIsAllowedPinLaw" = some m.cls := hown
  replace hnm : meth.name = "forbidden" := hnm
  rw [own_ef_own_rm2 m x0]
  show own_Ends _ _ _ _ (T0.setTop (mkF m 0 #[.val (.long x0), .second] []))
  refine own_st (fun t => XS.lloadN (own_here Y0) hx rfl (hb hby own_d2_0) rfl) ?_
  show own_Ends _ _ _ _ (T0.setTop (mkF m 1 #[.val (.long x0), .second] [(.long x0)]))
  refine own_st (fun t => XS.lconst (own_here Y0) hx rfl (hb hby own_d2_1) ) ?_
  show own_Ends _ _ _ _ (T0.setTop (mkF m 2 #[.val (.long x0), .second] [(.long (0 : Int64)), (.long x0)]))
  refine own_st (fun t => XS.lcmp (own_here Y0) hx rfl (hb hby own_d2_2) rfl) ?_
  show own_Ends _ _ _ _ (T0.setTop (mkF m 3 #[.val (.long x0), .second] [(.int (lcmpW x0 (0 : Int64)))]))
  by_cases c3_21 : x0 < (0 : Int64)
  ·
   refine own_st (fun t => XS.ifNo (own_here Y0) hx rfl (hb hby own_d2_3) rfl (XT.ll_ge_f c3_21)) ?_
   show own_Ends _ _ _ _ (T0.setTop (mkF m 6 #[.val (.long x0), .second] []))
   refine own_st (fun t => XS.iconst (own_here Y0) hx rfl (hb hby own_d2_6) ) ?_
   show own_Ends _ _ _ _ (T0.setTop (mkF m 7 #[.val (.long x0), .second] [(.int (1 : Int32))]))
   refine own_retN Y0 hx hlk (t := .boolean) hret (by simp) (hb hby own_d2_7) (by decide) (by decide) ?_
   refine ⟨?_, rfl⟩
   simp only [own_ltJ, own_eqJ, own_l0, own_l9, own_l10, own_l13, own_l32, own_l55295, own_l55296, own_l57343, own_l57344, own_l65533, own_l65534, own_l65535, own_l65536, own_l1114111, own_l1114112] at c3_21
   have : own_allow x0 = false := by simp only [own_allow, decide_eq_false_iff_not]; omega
   rw [this]; rfl
  ·
   refine own_st (fun t => XS.ifYes (own_here Y0) hx rfl (pc0 := 3) (pc' := 8) rfl (hb hby own_d2_3) rfl (XT.ll_ge_t c3_21) (by decide) (by decide)) ?_
   show own_Ends _ _ _ _ (T0.setTop (mkF m 8 #[.val (.long x0), .second] []))
   refine own_st (fun t => XS.lloadN (own_here Y0) hx rfl (hb hby own_d2_8) rfl) ?_
   show own_Ends _ _ _ _ (T0.setTop (mkF m 9 #[.val (.long x0), .second] [(.long x0)]))
   refine own_ldcJ Y0 hx hZ hown (hw _ (List.mem_of_getElem? (i := 12) rfl)) rfl (hb hby own_d2_9) ?_
   show own_Ends _ _ _ _ (T0.setTop (mkF m 12 #[.val (.long x0), .second] [(.long (1114111 : Int64)), (.long x0)]))
   refine own_st (fun t => XS.lcmp (own_here Y0) hx rfl (hb hby own_d2_12) rfl) ?_
   show own_Ends _ _ _ _ (T0.setTop (mkF m 13 #[.val (.long x0), .second] [(.int (lcmpW x0 (1114111 : Int64)))]))
   by_cases c13_22 : (1114111 : Int64) < x0
   ·
    refine own_st (fun t => XS.ifNo (own_here Y0) hx rfl (hb hby own_d2_13) rfl (XT.ll_le_f c13_22)) ?_
    show own_Ends _ _ _ _ (T0.setTop (mkF m 16 #[.val (.long x0), .second] []))
    refine own_st (fun t => XS.iconst (own_here Y0) hx rfl (hb hby own_d2_16) ) ?_
    show own_Ends _ _ _ _ (T0.setTop (mkF m 17 #[.val (.long x0), .second] [(.int (1 : Int32))]))
    refine own_retN Y0 hx hlk (t := .boolean) hret (by simp) (hb hby own_d2_17) (by decide) (by decide) ?_
    refine ⟨?_, rfl⟩
    simp only [own_ltJ, own_eqJ, own_l0, own_l9, own_l10, own_l13, own_l32, own_l55295, own_l55296, own_l57343, own_l57344, own_l65533, own_l65534, own_l65535, own_l65536, own_l1114111, own_l1114112] at c3_21 c13_22
    have : own_allow x0 = false := by simp only [own_allow, decide_eq_false_iff_not]; omega
    rw [this]; rfl
   ·
    refine own_st (fun t => XS.ifYes (own_here Y0) hx rfl (pc0 := 13) (pc' := 18) rfl (hb hby own_d2_13) rfl (XT.ll_le_t c13_22) (by decide) (by decide)) ?_
    show own_Ends _ _ _ _ (T0.setTop (mkF m 18 #[.val (.long x0), .second] []))
    refine own_st (fun t => XS.lloadN (own_here Y0) hx rfl (hb hby own_d2_18) rfl) ?_
    show own_Ends _ _ _ _ (T0.setTop (mkF m 19 #[.val (.long x0), .second] [(.long x0)]))
    refine own_ldcJ Y0 hx hZ hown (hw _ (List.mem_of_getElem? (i := 4) rfl)) rfl (hb hby own_d2_19) ?_
    show own_Ends _ _ _ _ (T0.setTop (mkF m 22 #[.val (.long x0), .second] [(.long (32 : Int64)), (.long x0)]))
    refine own_st (fun t => XS.lcmp (own_here Y0) hx rfl (hb hby own_d2_22) rfl) ?_
    show own_Ends _ _ _ _ (T0.setTop (mkF m 23 #[.val (.long x0), .second] [(.int (lcmpW x0 (32 : Int64)))]))
    by_cases c23_23 : x0 < (32 : Int64)
    ·
     refine own_st (fun t => XS.ifNo (own_here Y0) hx rfl (hb hby own_d2_23) rfl (XT.ll_ge_f c23_23)) ?_
     show own_Ends _ _ _ _ (T0.setTop (mkF m 26 #[.val (.long x0), .second] []))
     refine own_st (fun t => XS.lloadN (own_here Y0) hx rfl (hb hby own_d2_26) rfl) ?_
     show own_Ends _ _ _ _ (T0.setTop (mkF m 27 #[.val (.long x0), .second] [(.long x0)]))
     refine own_ldcJ Y0 hx hZ hown (hw _ (List.mem_of_getElem? (i := 1) rfl)) rfl (hb hby own_d2_27) ?_
     show own_Ends _ _ _ _ (T0.setTop (mkF m 30 #[.val (.long x0), .second] [(.long (9 : Int64)), (.long x0)]))
     refine own_st (fun t => XS.lcmp (own_here Y0) hx rfl (hb hby own_d2_30) rfl) ?_
     show own_Ends _ _ _ _ (T0.setTop (mkF m 31 #[.val (.long x0), .second] [(.int (lcmpW x0 (9 : Int64)))]))
     by_cases c31_24 : x0 = (9 : Int64)
     ·
      refine own_st (fun t => XS.ifYes (own_here Y0) hx rfl (pc0 := 31) (pc' := 54) rfl (hb hby own_d2_31) rfl (XT.ll_eq_t c31_24) (by decide) (by decide)) ?_
      show own_Ends _ _ _ _ (T0.setTop (mkF m 54 #[.val (.long x0), .second] []))
      refine own_st (fun t => XS.iconst (own_here Y0) hx rfl (hb hby own_d2_54) ) ?_
      show own_Ends _ _ _ _ (T0.setTop (mkF m 55 #[.val (.long x0), .second] [(.int (0 : Int32))]))
      refine own_retN Y0 hx hlk (t := .boolean) hret (by simp) (hb hby own_d2_55) (by decide) (by decide) ?_
      refine ⟨?_, rfl⟩
      simp only [own_ltJ, own_eqJ, own_l0, own_l9, own_l10, own_l13, own_l32, own_l55295, own_l55296, own_l57343, own_l57344, own_l65533, own_l65534, own_l65535, own_l65536, own_l1114111, own_l1114112] at c3_21 c13_22 c23_23 c31_24
      have : own_allow x0 = true := by simp only [own_allow, decide_eq_true_eq]; omega
      rw [this]; rfl
     ·
      refine own_st (fun t => XS.ifNo (own_here Y0) hx rfl (hb hby own_d2_31) rfl (XT.ll_eq_f c31_24)) ?_
      show own_Ends _ _ _ _ (T0.setTop (mkF m 34 #[.val (.long x0), .second] []))
      refine own_st (fun t => XS.lloadN (own_here Y0) hx rfl (hb hby own_d2_34) rfl) ?_
      show own_Ends _ _ _ _ (T0.setTop (mkF m 35 #[.val (.long x0), .second] [(.long x0)]))
      refine own_ldcJ Y0 hx hZ hown (hw _ (List.mem_of_getElem? (i := 2) rfl)) rfl (hb hby own_d2_35) ?_
      show own_Ends _ _ _ _ (T0.setTop (mkF m 38 #[.val (.long x0), .second] [(.long (10 : Int64)), (.long x0)]))
      refine own_st (fun t => XS.lcmp (own_here Y0) hx rfl (hb hby own_d2_38) rfl) ?_
      show own_Ends _ _ _ _ (T0.setTop (mkF m 39 #[.val (.long x0), .second] [(.int (lcmpW x0 (10 : Int64)))]))
      by_cases c39_25 : x0 = (10 : Int64)
      ·
       refine own_st (fun t => XS.ifYes (own_here Y0) hx rfl (pc0 := 39) (pc' := 54) rfl (hb hby own_d2_39) rfl (XT.ll_eq_t c39_25) (by decide) (by decide)) ?_
       show own_Ends _ _ _ _ (T0.setTop (mkF m 54 #[.val (.long x0), .second] []))
       refine own_st (fun t => XS.iconst (own_here Y0) hx rfl (hb hby own_d2_54) ) ?_
       show own_Ends _ _ _ _ (T0.setTop (mkF m 55 #[.val (.long x0), .second] [(.int (0 : Int32))]))
       refine own_retN Y0 hx hlk (t := .boolean) hret (by simp) (hb hby own_d2_55) (by decide) (by decide) ?_
       refine ⟨?_, rfl⟩
       simp only [own_ltJ, own_eqJ, own_l0, own_l9, own_l10, own_l13, own_l32, own_l55295, own_l55296, own_l57343, own_l57344, own_l65533, own_l65534, own_l65535, own_l65536, own_l1114111, own_l1114112] at c3_21 c13_22 c23_23 c31_24 c39_25
       have : own_allow x0 = true := by simp only [own_allow, decide_eq_true_eq]; omega
       rw [this]; rfl
      ·
       refine own_st (fun t => XS.ifNo (own_here Y0) hx rfl (hb hby own_d2_39) rfl (XT.ll_eq_f c39_25)) ?_
       show own_Ends _ _ _ _ (T0.setTop (mkF m 42 #[.val (.long x0), .second] []))
       refine own_st (fun t => XS.lloadN (own_here Y0) hx rfl (hb hby own_d2_42) rfl) ?_
       show own_Ends _ _ _ _ (T0.setTop (mkF m 43 #[.val (.long x0), .second] [(.long x0)]))
       refine own_ldcJ Y0 hx hZ hown (hw _ (List.mem_of_getElem? (i := 3) rfl)) rfl (hb hby own_d2_43) ?_
       show own_Ends _ _ _ _ (T0.setTop (mkF m 46 #[.val (.long x0), .second] [(.long (13 : Int64)), (.long x0)]))
       refine own_st (fun t => XS.lcmp (own_here Y0) hx rfl (hb hby own_d2_46) rfl) ?_
       show own_Ends _ _ _ _ (T0.setTop (mkF m 47 #[.val (.long x0), .second] [(.int (lcmpW x0 (13 : Int64)))]))
       by_cases c47_26 : x0 = (13 : Int64)
       ·
        refine own_st (fun t => XS.ifYes (own_here Y0) hx rfl (pc0 := 47) (pc' := 54) rfl (hb hby own_d2_47) rfl (XT.ll_eq_t c47_26) (by decide) (by decide)) ?_
        show own_Ends _ _ _ _ (T0.setTop (mkF m 54 #[.val (.long x0), .second] []))
        refine own_st (fun t => XS.iconst (own_here Y0) hx rfl (hb hby own_d2_54) ) ?_
        show own_Ends _ _ _ _ (T0.setTop (mkF m 55 #[.val (.long x0), .second] [(.int (0 : Int32))]))
        refine own_retN Y0 hx hlk (t := .boolean) hret (by simp) (hb hby own_d2_55) (by decide) (by decide) ?_
        refine ⟨?_, rfl⟩
        simp only [own_ltJ, own_eqJ, own_l0, own_l9, own_l10, own_l13, own_l32, own_l55295, own_l55296, own_l57343, own_l57344, own_l65533, own_l65534, own_l65535, own_l65536, own_l1114111, own_l1114112] at c3_21 c13_22 c23_23 c31_24 c39_25 c47_26
        have : own_allow x0 = true := by simp only [own_allow, decide_eq_true_eq]; omega
        rw [this]; rfl
       ·
        refine own_st (fun t => XS.ifNo (own_here Y0) hx rfl (hb hby own_d2_47) rfl (XT.ll_eq_f c47_26)) ?_
        show own_Ends _ _ _ _ (T0.setTop (mkF m 50 #[.val (.long x0), .second] []))
        refine own_st (fun t => XS.iconst (own_here Y0) hx rfl (hb hby own_d2_50) ) ?_
        show own_Ends _ _ _ _ (T0.setTop (mkF m 51 #[.val (.long x0), .second] [(.int (1 : Int32))]))
        refine own_st (fun t => XS.goto (own_here Y0) hx rfl (pc0 := 51) (pc' := 55) rfl (hb hby own_d2_51) (by decide) (by decide)) ?_
        show own_Ends _ _ _ _ (T0.setTop (mkF m 55 #[.val (.long x0), .second] [(.int (1 : Int32))]))
        refine own_retN Y0 hx hlk (t := .boolean) hret (by simp) (hb hby own_d2_55) (by decide) (by decide) ?_
        refine ⟨?_, rfl⟩
        simp only [own_ltJ, own_eqJ, own_l0, own_l9, own_l10, own_l13, own_l32, own_l55295, own_l55296, own_l57343, own_l57344, own_l65533, own_l65534, own_l65535, own_l65536, own_l1114111, own_l1114112] at c3_21 c13_22 c23_23 c31_24 c39_25 c47_26
        have : own_allow x0 = false := by simp only [own_allow, decide_eq_false_iff_not]; omega
        rw [this]; rfl
    ·
     refine own_st (fun t => XS.ifYes (own_here Y0) hx rfl (pc0 := 23) (pc' := 56) rfl (hb hby own_d2_23) rfl (XT.ll_ge_t c23_23) (by decide) (by decide)) ?_
     show own_Ends _ _ _ _ (T0.setTop (mkF m 56 #[.val (.long x0), .second] []))
     refine own_st (fun t => XS.lloadN (own_here Y0) hx rfl (hb hby own_d2_56) rfl) ?_
     show own_Ends _ _ _ _ (T0.setTop (mkF m 57 #[.val (.long x0), .second] [(.long x0)]))
     refine own_ldcJ Y0 hx hZ hown (hw _ (List.mem_of_getElem? (i := 6) rfl)) rfl (hb hby own_d2_57) ?_
     show own_Ends _ _ _ _ (T0.setTop (mkF m 60 #[.val (.long x0), .second] [(.long (55296 : Int64)), (.long x0)]))
     refine own_st (fun t => XS.lcmp (own_here Y0) hx rfl (hb hby own_d2_60) rfl) ?_
     show own_Ends _ _ _ _ (T0.setTop (mkF m 61 #[.val (.long x0), .second] [(.int (lcmpW x0 (55296 : Int64)))]))
     by_cases c61_27 : x0 < (55296 : Int64)
     ·
      refine own_st (fun t => XS.ifYes (own_here Y0) hx rfl (pc0 := 61) (pc' := 74) rfl (hb hby own_d2_61) rfl (XT.ll_lt_t c61_27) (by decide) (by decide)) ?_
      show own_Ends _ _ _ _ (T0.setTop (mkF m 74 #[.val (.long x0), .second] []))
      refine own_st (fun t => XS.lloadN (own_here Y0) hx rfl (hb hby own_d2_74) rfl) ?_
      show own_Ends _ _ _ _ (T0.setTop (mkF m 75 #[.val (.long x0), .second] [(.long x0)]))
      refine own_ldcJ Y0 hx hZ hown (hw _ (List.mem_of_getElem? (i := 31) rfl)) rfl (hb hby own_d2_75) ?_
      show own_Ends _ _ _ _ (T0.setTop (mkF m 78 #[.val (.long x0), .second] [(.long (65534 : Int64)), (.long x0)]))
      refine own_st (fun t => XS.lcmp (own_here Y0) hx rfl (hb hby own_d2_78) rfl) ?_
      show own_Ends _ _ _ _ (T0.setTop (mkF m 79 #[.val (.long x0), .second] [(.int (lcmpW x0 (65534 : Int64)))]))
      by_cases c79_28 : x0 = (65534 : Int64)
      ·
       refine own_st (fun t => XS.ifYes (own_here Y0) hx rfl (pc0 := 79) (pc' := 90) rfl (hb hby own_d2_79) rfl (XT.ll_eq_t c79_28) (by decide) (by decide)) ?_
       show own_Ends _ _ _ _ (T0.setTop (mkF m 90 #[.val (.long x0), .second] []))
       refine own_st (fun t => XS.iconst (own_here Y0) hx rfl (hb hby own_d2_90) ) ?_
       show own_Ends _ _ _ _ (T0.setTop (mkF m 91 #[.val (.long x0), .second] [(.int (1 : Int32))]))
       refine own_st (fun t => XS.goto (own_here Y0) hx rfl (pc0 := 91) (pc' := 95) rfl (hb hby own_d2_91) (by decide) (by decide)) ?_
       show own_Ends _ _ _ _ (T0.setTop (mkF m 95 #[.val (.long x0), .second] [(.int (1 : Int32))]))
       refine own_retN Y0 hx hlk (t := .boolean) hret (by simp) (hb hby own_d2_95) (by decide) (by decide) ?_
       refine ⟨?_, rfl⟩
       simp only [own_ltJ, own_eqJ, own_l0, own_l9, own_l10, own_l13, own_l32, own_l55295, own_l55296, own_l57343, own_l57344, own_l65533, own_l65534, own_l65535, own_l65536, own_l1114111, own_l1114112] at c3_21 c13_22 c23_23 c61_27 c79_28
       have : own_allow x0 = false := by simp only [own_allow, decide_eq_false_iff_not]; omega
       rw [this]; rfl
      ·
       refine own_st (fun t => XS.ifNo (own_here Y0) hx rfl (hb hby own_d2_79) rfl (XT.ll_eq_f c79_28)) ?_
       show own_Ends _ _ _ _ (T0.setTop (mkF m 82 #[.val (.long x0), .second] []))
       refine own_st (fun t => XS.lloadN (own_here Y0) hx rfl (hb hby own_d2_82) rfl) ?_
       show own_Ends _ _ _ _ (T0.setTop (mkF m 83 #[.val (.long x0), .second] [(.long x0)]))
       refine own_ldcJ Y0 hx hZ hown (hw _ (List.mem_of_getElem? (i := 10) rfl)) rfl (hb hby own_d2_83) ?_
       show own_Ends _ _ _ _ (T0.setTop (mkF m 86 #[.val (.long x0), .second] [(.long (65535 : Int64)), (.long x0)]))
       refine own_st (fun t => XS.lcmp (own_here Y0) hx rfl (hb hby own_d2_86) rfl) ?_
       show own_Ends _ _ _ _ (T0.setTop (mkF m 87 #[.val (.long x0), .second] [(.int (lcmpW x0 (65535 : Int64)))]))
       by_cases c87_29 : x0 = (65535 : Int64)
       ·
        refine own_st (fun t => XS.ifNo (own_here Y0) hx rfl (hb hby own_d2_87) rfl (XT.ll_ne_f c87_29)) ?_
        show own_Ends _ _ _ _ (T0.setTop (mkF m 90 #[.val (.long x0), .second] []))
        refine own_st (fun t => XS.iconst (own_here Y0) hx rfl (hb hby own_d2_90) ) ?_
        show own_Ends _ _ _ _ (T0.setTop (mkF m 91 #[.val (.long x0), .second] [(.int (1 : Int32))]))
        refine own_st (fun t => XS.goto (own_here Y0) hx rfl (pc0 := 91) (pc' := 95) rfl (hb hby own_d2_91) (by decide) (by decide)) ?_
        show own_Ends _ _ _ _ (T0.setTop (mkF m 95 #[.val (.long x0), .second] [(.int (1 : Int32))]))
        refine own_retN Y0 hx hlk (t := .boolean) hret (by simp) (hb hby own_d2_95) (by decide) (by decide) ?_
        refine ⟨?_, rfl⟩
        simp only [own_ltJ, own_eqJ, own_l0, own_l9, own_l10, own_l13, own_l32, own_l55295, own_l55296, own_l57343, own_l57344, own_l65533, own_l65534, own_l65535, own_l65536, own_l1114111, own_l1114112] at c3_21 c13_22 c23_23 c61_27 c79_28 c87_29
        have : own_allow x0 = false := by simp only [own_allow, decide_eq_false_iff_not]; omega
        rw [this]; rfl
       ·
        refine own_st (fun t => XS.ifYes (own_here Y0) hx rfl (pc0 := 87) (pc' := 94) rfl (hb hby own_d2_87) rfl (XT.ll_ne_t c87_29) (by decide) (by decide)) ?_
        show own_Ends _ _ _ _ (T0.setTop (mkF m 94 #[.val (.long x0), .second] []))
        refine own_st (fun t => XS.iconst (own_here Y0) hx rfl (hb hby own_d2_94) ) ?_
        show own_Ends _ _ _ _ (T0.setTop (mkF m 95 #[.val (.long x0), .second] [(.int (0 : Int32))]))
        refine own_retN Y0 hx hlk (t := .boolean) hret (by simp) (hb hby own_d2_95) (by decide) (by decide) ?_
        refine ⟨?_, rfl⟩
        simp only [own_ltJ, own_eqJ, own_l0, own_l9, own_l10, own_l13, own_l32, own_l55295, own_l55296, own_l57343, own_l57344, own_l65533, own_l65534, own_l65535, own_l65536, own_l1114111, own_l1114112] at c3_21 c13_22 c23_23 c61_27 c79_28 c87_29
        have : own_allow x0 = true := by simp only [own_allow, decide_eq_true_eq]; omega
        rw [this]; rfl
     ·
      refine own_st (fun t => XS.ifNo (own_here Y0) hx rfl (hb hby own_d2_61) rfl (XT.ll_lt_f c61_27)) ?_
      show own_Ends _ _ _ _ (T0.setTop (mkF m 64 #[.val (.long x0), .second] []))
      refine own_st (fun t => XS.lloadN (own_here Y0) hx rfl (hb hby own_d2_64) rfl) ?_
      show own_Ends _ _ _ _ (T0.setTop (mkF m 65 #[.val (.long x0), .second] [(.long x0)]))
      refine own_ldcJ Y0 hx hZ hown (hw _ (List.mem_of_getElem? (i := 7) rfl)) rfl (hb hby own_d2_65) ?_
      show own_Ends _ _ _ _ (T0.setTop (mkF m 68 #[.val (.long x0), .second] [(.long (57343 : Int64)), (.long x0)]))
      refine own_st (fun t => XS.lcmp (own_here Y0) hx rfl (hb hby own_d2_68) rfl) ?_
      show own_Ends _ _ _ _ (T0.setTop (mkF m 69 #[.val (.long x0), .second] [(.int (lcmpW x0 (57343 : Int64)))]))
      by_cases c69_30 : (57343 : Int64) < x0
      ·
       refine own_st (fun t => XS.ifYes (own_here Y0) hx rfl (pc0 := 69) (pc' := 74) rfl (hb hby own_d2_69) rfl (XT.ll_gt_t c69_30) (by decide) (by decide)) ?_
       show own_Ends _ _ _ _ (T0.setTop (mkF m 74 #[.val (.long x0), .second] []))
       refine own_st (fun t => XS.lloadN (own_here Y0) hx rfl (hb hby own_d2_74) rfl) ?_
       show own_Ends _ _ _ _ (T0.setTop (mkF m 75 #[.val (.long x0), .second] [(.long x0)]))
       refine own_ldcJ Y0 hx hZ hown (hw _ (List.mem_of_getElem? (i := 31) rfl)) rfl (hb hby own_d2_75) ?_
       show own_Ends _ _ _ _ (T0.setTop (mkF m 78 #[.val (.long x0), .second] [(.long (65534 : Int64)), (.long x0)]))
       refine own_st (fun t => XS.lcmp (own_here Y0) hx rfl (hb hby own_d2_78) rfl) ?_
       show own_Ends _ _ _ _ (T0.setTop (mkF m 79 #[.val (.long x0), .second] [(.int (lcmpW x0 (65534 : Int64)))]))
       by_cases c79_31 : x0 = (65534 : Int64)
       ·
        refine own_st (fun t => XS.ifYes (own_here Y0) hx rfl (pc0 := 79) (pc' := 90) rfl (hb hby own_d2_79) rfl (XT.ll_eq_t c79_31) (by decide) (by decide)) ?_
        show own_Ends _ _ _ _ (T0.setTop (mkF m 90 #[.val (.long x0), .second] []))
        refine own_st (fun t => XS.iconst (own_here Y0) hx rfl (hb hby own_d2_90) ) ?_
        show own_Ends _ _ _ _ (T0.setTop (mkF m 91 #[.val (.long x0), .second] [(.int (1 : Int32))]))
        refine own_st (fun t => XS.goto (own_here Y0) hx rfl (pc0 := 91) (pc' := 95) rfl (hb hby own_d2_91) (by decide) (by decide)) ?_
        show own_Ends _ _ _ _ (T0.setTop (mkF m 95 #[.val (.long x0), .second] [(.int (1 : Int32))]))
        refine own_retN Y0 hx hlk (t := .boolean) hret (by simp) (hb hby own_d2_95) (by decide) (by decide) ?_
        refine ⟨?_, rfl⟩
        simp only [own_ltJ, own_eqJ, own_l0, own_l9, own_l10, own_l13, own_l32, own_l55295, own_l55296, own_l57343, own_l57344, own_l65533, own_l65534, own_l65535, own_l65536, own_l1114111, own_l1114112] at c3_21 c13_22 c23_23 c61_27 c69_30 c79_31
        have : own_allow x0 = false := by simp only [own_allow, decide_eq_false_iff_not]; omega
        rw [this]; rfl
       ·
        refine own_st (fun t => XS.ifNo (own_here Y0) hx rfl (hb hby own_d2_79) rfl (XT.ll_eq_f c79_31)) ?_
        show own_Ends _ _ _ _ (T0.setTop (mkF m 82 #[.val (.long x0), .second] []))
        refine own_st (fun t => XS.lloadN (own_here Y0) hx rfl (hb hby own_d2_82) rfl) ?_
        show own_Ends _ _ _ _ (T0.setTop (mkF m 83 #[.val (.long x0), .second] [(.long x0)]))
        refine own_ldcJ Y0 hx hZ hown (hw _ (List.mem_of_getElem? (i := 10) rfl)) rfl (hb hby own_d2_83) ?_
        show own_Ends _ _ _ _ (T0.setTop (mkF m 86 #[.val (.long x0), .second] [(.long (65535 : Int64)), (.long x0)]))
        refine own_st (fun t => XS.lcmp (own_here Y0) hx rfl (hb hby own_d2_86) rfl) ?_
        show own_Ends _ _ _ _ (T0.setTop (mkF m 87 #[.val (.long x0), .second] [(.int (lcmpW x0 (65535 : Int64)))]))
        by_cases c87_32 : x0 = (65535 : Int64)
        ·
         refine own_st (fun t => XS.ifNo (own_here Y0) hx rfl (hb hby own_d2_87) rfl (XT.ll_ne_f c87_32)) ?_
         show own_Ends _ _ _ _ (T0.setTop (mkF m 90 #[.val (.long x0), .second] []))
         refine own_st (fun t => XS.iconst (own_here Y0) hx rfl (hb hby own_d2_90) ) ?_
         show own_Ends _ _ _ _ (T0.setTop (mkF m 91 #[.val (.long x0), .second] [(.int (1 : Int32))]))
         refine own_st (fun t => XS.goto (own_here Y0) hx rfl (pc0 := 91) (pc' := 95) rfl (hb hby own_d2_91) (by decide) (by decide)) ?_
         show own_Ends _ _ _ _ (T0.setTop (mkF m 95 #[.val (.long x0), .second] [(.int (1 : Int32))]))
         refine own_retN Y0 hx hlk (t := .boolean) hret (by simp) (hb hby own_d2_95) (by decide) (by decide) ?_
         refine ⟨?_, rfl⟩
         simp only [own_ltJ, own_eqJ, own_l0, own_l9, own_l10, own_l13, own_l32, own_l55295, own_l55296, own_l57343, own_l57344, own_l65533, own_l65534, own_l65535, own_l65536, own_l1114111, own_l1114112] at c3_21 c13_22 c23_23 c61_27 c69_30 c79_31 c87_32
         have : own_allow x0 = false := by simp only [own_allow, decide_eq_false_iff_not]; omega
         rw [this]; rfl
        ·
         refine own_st (fun t => XS.ifYes (own_here Y0) hx rfl (pc0 := 87) (pc' := 94) rfl (hb hby own_d2_87) rfl (XT.ll_ne_t c87_32) (by decide) (by decide)) ?_
         show own_Ends _ _ _ _ (T0.setTop (mkF m 94 #[.val (.long x0), .second] []))
         refine own_st (fun t => XS.iconst (own_here Y0) hx rfl (hb hby own_d2_94) ) ?_
         show own_Ends _ _ _ _ (T0.setTop (mkF m 95 #[.val (.long x0), .second] [(.int (0 : Int32))]))
         refine own_retN Y0 hx hlk (t := .boolean) hret (by simp) (hb hby own_d2_95) (by decide) (by decide) ?_
         refine ⟨?_, rfl⟩
         simp only [own_ltJ, own_eqJ, own_l0, own_l9, own_l10, own_l13, own_l32, own_l55295, own_l55296, own_l57343, own_l57344, own_l65533, own_l65534, own_l65535, own_l65536, own_l1114111, own_l1114112] at c3_21 c13_22 c23_23 c61_27 c69_30 c79_31 c87_32
         have : own_allow x0 = true := by simp only [own_allow, decide_eq_true_eq]; omega
         rw [this]; rfl
      ·
       refine own_st (fun t => XS.ifNo (own_here Y0) hx rfl (hb hby own_d2_69) rfl (XT.ll_gt_f c69_30)) ?_
       show own_Ends _ _ _ _ (T0.setTop (mkF m 72 #[.val (.long x0), .second] []))
       refine own_st (fun t => XS.iconst (own_here Y0) hx rfl (hb hby own_d2_72) ) ?_
       show own_Ends _ _ _ _ (T0.setTop (mkF m 73 #[.val (.long x0), .second] [(.int (1 : Int32))]))
       refine own_retN Y0 hx hlk (t := .boolean) hret (by simp) (hb hby own_d2_73) (by decide) (by decide) ?_
       refine ⟨?_, rfl⟩
       simp only [own_ltJ, own_eqJ, own_l0, own_l9, own_l10, own_l13, own_l32, own_l55295, own_l55296, own_l57343, own_l57344, own_l65533, own_l65534, own_l65535, own_l65536, own_l1114111, own_l1114112] at c3_21 c13_22 c23_23 c61_27 c69_30
       have : own_allow x0 = false := by simp only [own_allow, decide_eq_false_iff_not]; omega
       rw [this]; rfl
theorem own_pd0 : parseMethodDescriptor "(J)Z" = some ⟨[.long], some .boolean⟩ := by decide +kernel
theorem own_ef_own_rm0 (m : MethodId) (x0 : Int64) (x1 : Int32) (x2 : Int32) : entryFrame m #[(.long x0), (.int x1), (.int x2)] maxLocals = mkF m 0 #[.val (.long x0), .second, .val (.int x1), .val (.int x2), .unset, .unset, .unset, .unset] [] := by first | (simp [entryFrame, mkF, argsToLocals, Value.category, maxLocals]; done) | rfl
def own_Q_own_rm0 (Z : State) (x0 : Int64) (x1 : Int32) (x2 : Int32) (h0 : Heap) (n0 : Nat) (v : Option Value) (h : Heap) : Prop := v = some (.int 1)
set_option maxRecDepth 65536 in
set_option maxHeartbeats 40000000 in
theorem own_rm0 (l : Launch) (Z : State) (a0 : Array Value) (hw : ∀ d ∈ tables_1, d.before a0 Z = true) (ws : List Jvm.Cond) (x0 : Int64) (x1 : Int32) (x2 : Int32)  (h0 : Heap) (n0 : Nat) (Z0 : n0 ≤ h0.size)  :
    own_Con l Z x code maxLocals ret ws room_1 #[(.long x0), (.int x1), (.int x2)] h0 n0 (own_Q_own_rm0 Z x0 x1 x2 h0 n0) := by
  refine own_body (plainFor_of_name own_pn1) ?_
  intro p e s m below meth c T0 hx hZ hby hml hown hnm hret hlk Y0
  replace hown : s.vm.findClass "com/example/deft_wiring/deftwiring/context/XmlScannerIsAllowedPinLaw" = some m.cls := hown
  replace hml : c.maxLocals = 8 := hml
  replace hret : meth.sig.returnType = some .boolean := hret
  rw [own_ef_own_rm0 m x0 x1 x2]
  show own_Ends _ _ _ _ (T0.setTop (mkF m 0 #[.val (.long x0), .second, .val (.int x1), .val (.int x2), .unset, .unset, .unset, .unset] []))
  refine own_st (fun t => XS.bipush (own_here Y0) hx rfl (hb hby at_0) ) ?_
  show own_Ends _ _ _ _ (T0.setTop (mkF m 2 #[.val (.long x0), .second, .val (.int x1), .val (.int x2), .unset, .unset, .unset, .unset] [(.int (16 : Int32))]))
  refine own_newP Y0 hx hZ (hw _ (List.mem_of_getElem? (i := 0) rfl)) rfl (hb hby at_2) rfl (by decide) (nz := 16) (cap := 16) (by decide) (by decide) (by decide) (by decide) (by decide) (ty := .long) rfl (fun T33 h35 b38 eb39 Y34 E36 A37 => ?_)
  have g40 : n0 ≤ b38 := by rw [eb39]; exact Z0
  replace A37 : own_A Z h35 b38 .long [(.long (0 : Int64)), (.long (0 : Int64)), (.long (0 : Int64)), (.long (0 : Int64)), (.long (0 : Int64)), (.long (0 : Int64)), (.long (0 : Int64)), (.long (0 : Int64)), (.long (0 : Int64)), (.long (0 : Int64)), (.long (0 : Int64)), (.long (0 : Int64)), (.long (0 : Int64)), (.long (0 : Int64)), (.long (0 : Int64)), (.long (0 : Int64))] := A37
  show own_Ends _ _ _ _ (T33.setTop (mkF m 4 #[.val (.long x0), .second, .val (.int x1), .val (.int x2), .unset, .unset, .unset, .unset] [(.ref b38)]))
  refine own_st (fun t => XS.dup (own_here Y34) hx rfl (hb hby at_4) rfl rfl) ?_
  show own_Ends _ _ _ _ (T33.setTop (mkF m 5 #[.val (.long x0), .second, .val (.int x1), .val (.int x2), .unset, .unset, .unset, .unset] [(.ref b38), (.ref b38)]))
  refine own_st (fun t => XS.iconst (own_here Y34) hx rfl (hb hby at_5) ) ?_
  show own_Ends _ _ _ _ (T33.setTop (mkF m 6 #[.val (.long x0), .second, .val (.int x1), .val (.int x2), .unset, .unset, .unset, .unset] [(.int (0 : Int32)), (.ref b38), (.ref b38)]))
  refine own_st (fun t => XS.lconst (own_here Y34) hx rfl (hb hby at_6) ) ?_
  show own_Ends _ _ _ _ (T33.setTop (mkF m 7 #[.val (.long x0), .second, .val (.int x1), .val (.int x2), .unset, .unset, .unset, .unset] [(.long (0 : Int64)), (.int (0 : Int32)), (.ref b38), (.ref b38)]))
  refine own_stJ Y34 hx hZ A37 g40 (i := 0) (by decide) (by decide) (Nat.le_of_ble_eq_true rfl) rfl rfl (hb hby at_7) (fun T41 h43 Y42 W44 A45 => ?_)
  replace A45 : own_A Z h43 b38 .long [(.long (0 : Int64)), (.long (0 : Int64)), (.long (0 : Int64)), (.long (0 : Int64)), (.long (0 : Int64)), (.long (0 : Int64)), (.long (0 : Int64)), (.long (0 : Int64)), (.long (0 : Int64)), (.long (0 : Int64)), (.long (0 : Int64)), (.long (0 : Int64)), (.long (0 : Int64)), (.long (0 : Int64)), (.long (0 : Int64)), (.long (0 : Int64))] := A45
  show own_Ends _ _ _ _ (T41.setTop (mkF m 8 #[.val (.long x0), .second, .val (.int x1), .val (.int x2), .unset, .unset, .unset, .unset] [(.ref b38)]))
  refine own_st (fun t => XS.dup (own_here Y42) hx rfl (hb hby at_8) rfl rfl) ?_
  show own_Ends _ _ _ _ (T41.setTop (mkF m 9 #[.val (.long x0), .second, .val (.int x1), .val (.int x2), .unset, .unset, .unset, .unset] [(.ref b38), (.ref b38)]))
  refine own_st (fun t => XS.iconst (own_here Y42) hx rfl (hb hby at_9) ) ?_
  show own_Ends _ _ _ _ (T41.setTop (mkF m 10 #[.val (.long x0), .second, .val (.int x1), .val (.int x2), .unset, .unset, .unset, .unset] [(.int (1 : Int32)), (.ref b38), (.ref b38)]))
  refine own_ldcJ Y42 hx hZ hown (hw _ (List.mem_of_getElem? (i := 1) rfl)) rfl (hb hby at_10) ?_
  show own_Ends _ _ _ _ (T41.setTop (mkF m 13 #[.val (.long x0), .second, .val (.int x1), .val (.int x2), .unset, .unset, .unset, .unset] [(.long (9 : Int64)), (.int (1 : Int32)), (.ref b38), (.ref b38)]))
  refine own_stJ Y42 hx hZ A45 g40 (i := 1) (by decide) (by decide) (Nat.le_of_ble_eq_true rfl) rfl rfl (hb hby at_13) (fun T46 h48 Y47 W49 A50 => ?_)
  replace A50 : own_A Z h48 b38 .long [(.long (0 : Int64)), (.long (9 : Int64)), (.long (0 : Int64)), (.long (0 : Int64)), (.long (0 : Int64)), (.long (0 : Int64)), (.long (0 : Int64)), (.long (0 : Int64)), (.long (0 : Int64)), (.long (0 : Int64)), (.long (0 : Int64)), (.long (0 : Int64)), (.long (0 : Int64)), (.long (0 : Int64)), (.long (0 : Int64)), (.long (0 : Int64))] := A50
  show own_Ends _ _ _ _ (T46.setTop (mkF m 14 #[.val (.long x0), .second, .val (.int x1), .val (.int x2), .unset, .unset, .unset, .unset] [(.ref b38)]))
  refine own_st (fun t => XS.dup (own_here Y47) hx rfl (hb hby at_14) rfl rfl) ?_
  show own_Ends _ _ _ _ (T46.setTop (mkF m 15 #[.val (.long x0), .second, .val (.int x1), .val (.int x2), .unset, .unset, .unset, .unset] [(.ref b38), (.ref b38)]))
  refine own_st (fun t => XS.iconst (own_here Y47) hx rfl (hb hby at_15) ) ?_
  show own_Ends _ _ _ _ (T46.setTop (mkF m 16 #[.val (.long x0), .second, .val (.int x1), .val (.int x2), .unset, .unset, .unset, .unset] [(.int (2 : Int32)), (.ref b38), (.ref b38)]))
  refine own_ldcJ Y47 hx hZ hown (hw _ (List.mem_of_getElem? (i := 2) rfl)) rfl (hb hby at_16) ?_
  show own_Ends _ _ _ _ (T46.setTop (mkF m 19 #[.val (.long x0), .second, .val (.int x1), .val (.int x2), .unset, .unset, .unset, .unset] [(.long (10 : Int64)), (.int (2 : Int32)), (.ref b38), (.ref b38)]))
  refine own_stJ Y47 hx hZ A50 g40 (i := 2) (by decide) (by decide) (Nat.le_of_ble_eq_true rfl) rfl rfl (hb hby at_19) (fun T51 h53 Y52 W54 A55 => ?_)
  replace A55 : own_A Z h53 b38 .long [(.long (0 : Int64)), (.long (9 : Int64)), (.long (10 : Int64)), (.long (0 : Int64)), (.long (0 : Int64)), (.long (0 : Int64)), (.long (0 : Int64)), (.long (0 : Int64)), (.long (0 : Int64)), (.long (0 : Int64)), (.long (0 : Int64)), (.long (0 : Int64)), (.long (0 : Int64)), (.long (0 : Int64)), (.long (0 : Int64)), (.long (0 : Int64))] := A55
  show own_Ends _ _ _ _ (T51.setTop (mkF m 20 #[.val (.long x0), .second, .val (.int x1), .val (.int x2), .unset, .unset, .unset, .unset] [(.ref b38)]))
  refine own_st (fun t => XS.dup (own_here Y52) hx rfl (hb hby at_20) rfl rfl) ?_
  show own_Ends _ _ _ _ (T51.setTop (mkF m 21 #[.val (.long x0), .second, .val (.int x1), .val (.int x2), .unset, .unset, .unset, .unset] [(.ref b38), (.ref b38)]))
  refine own_st (fun t => XS.iconst (own_here Y52) hx rfl (hb hby at_21) ) ?_
  show own_Ends _ _ _ _ (T51.setTop (mkF m 22 #[.val (.long x0), .second, .val (.int x1), .val (.int x2), .unset, .unset, .unset, .unset] [(.int (3 : Int32)), (.ref b38), (.ref b38)]))
  refine own_ldcJ Y52 hx hZ hown (hw _ (List.mem_of_getElem? (i := 3) rfl)) rfl (hb hby at_22) ?_
  show own_Ends _ _ _ _ (T51.setTop (mkF m 25 #[.val (.long x0), .second, .val (.int x1), .val (.int x2), .unset, .unset, .unset, .unset] [(.long (13 : Int64)), (.int (3 : Int32)), (.ref b38), (.ref b38)]))
  refine own_stJ Y52 hx hZ A55 g40 (i := 3) (by decide) (by decide) (Nat.le_of_ble_eq_true rfl) rfl rfl (hb hby at_25) (fun T56 h58 Y57 W59 A60 => ?_)
  replace A60 : own_A Z h58 b38 .long [(.long (0 : Int64)), (.long (9 : Int64)), (.long (10 : Int64)), (.long (13 : Int64)), (.long (0 : Int64)), (.long (0 : Int64)), (.long (0 : Int64)), (.long (0 : Int64)), (.long (0 : Int64)), (.long (0 : Int64)), (.long (0 : Int64)), (.long (0 : Int64)), (.long (0 : Int64)), (.long (0 : Int64)), (.long (0 : Int64)), (.long (0 : Int64))] := A60
  show own_Ends _ _ _ _ (T56.setTop (mkF m 26 #[.val (.long x0), .second, .val (.int x1), .val (.int x2), .unset, .unset, .unset, .unset] [(.ref b38)]))
  refine own_st (fun t => XS.dup (own_here Y57) hx rfl (hb hby at_26) rfl rfl) ?_
  show own_Ends _ _ _ _ (T56.setTop (mkF m 27 #[.val (.long x0), .second, .val (.int x1), .val (.int x2), .unset, .unset, .unset, .unset] [(.ref b38), (.ref b38)]))
  refine own_st (fun t => XS.iconst (own_here Y57) hx rfl (hb hby at_27) ) ?_
  show own_Ends _ _ _ _ (T56.setTop (mkF m 28 #[.val (.long x0), .second, .val (.int x1), .val (.int x2), .unset, .unset, .unset, .unset] [(.int (4 : Int32)), (.ref b38), (.ref b38)]))
  refine own_ldcJ Y57 hx hZ hown (hw _ (List.mem_of_getElem? (i := 4) rfl)) rfl (hb hby at_28) ?_
  show own_Ends _ _ _ _ (T56.setTop (mkF m 31 #[.val (.long x0), .second, .val (.int x1), .val (.int x2), .unset, .unset, .unset, .unset] [(.long (32 : Int64)), (.int (4 : Int32)), (.ref b38), (.ref b38)]))
  refine own_stJ Y57 hx hZ A60 g40 (i := 4) (by decide) (by decide) (Nat.le_of_ble_eq_true rfl) rfl rfl (hb hby at_31) (fun T61 h63 Y62 W64 A65 => ?_)
  replace A65 : own_A Z h63 b38 .long [(.long (0 : Int64)), (.long (9 : Int64)), (.long (10 : Int64)), (.long (13 : Int64)), (.long (32 : Int64)), (.long (0 : Int64)), (.long (0 : Int64)), (.long (0 : Int64)), (.long (0 : Int64)), (.long (0 : Int64)), (.long (0 : Int64)), (.long (0 : Int64)), (.long (0 : Int64)), (.long (0 : Int64)), (.long (0 : Int64)), (.long (0 : Int64))] := A65
  show own_Ends _ _ _ _ (T61.setTop (mkF m 32 #[.val (.long x0), .second, .val (.int x1), .val (.int x2), .unset, .unset, .unset, .unset] [(.ref b38)]))
  refine own_st (fun t => XS.dup (own_here Y62) hx rfl (hb hby at_32) rfl rfl) ?_
  show own_Ends _ _ _ _ (T61.setTop (mkF m 33 #[.val (.long x0), .second, .val (.int x1), .val (.int x2), .unset, .unset, .unset, .unset] [(.ref b38), (.ref b38)]))
  refine own_st (fun t => XS.iconst (own_here Y62) hx rfl (hb hby at_33) ) ?_
  show own_Ends _ _ _ _ (T61.setTop (mkF m 34 #[.val (.long x0), .second, .val (.int x1), .val (.int x2), .unset, .unset, .unset, .unset] [(.int (5 : Int32)), (.ref b38), (.ref b38)]))
  refine own_ldcJ Y62 hx hZ hown (hw _ (List.mem_of_getElem? (i := 5) rfl)) rfl (hb hby at_34) ?_
  show own_Ends _ _ _ _ (T61.setTop (mkF m 37 #[.val (.long x0), .second, .val (.int x1), .val (.int x2), .unset, .unset, .unset, .unset] [(.long (55295 : Int64)), (.int (5 : Int32)), (.ref b38), (.ref b38)]))
  refine own_stJ Y62 hx hZ A65 g40 (i := 5) (by decide) (by decide) (Nat.le_of_ble_eq_true rfl) rfl rfl (hb hby at_37) (fun T66 h68 Y67 W69 A70 => ?_)
  replace A70 : own_A Z h68 b38 .long [(.long (0 : Int64)), (.long (9 : Int64)), (.long (10 : Int64)), (.long (13 : Int64)), (.long (32 : Int64)), (.long (55295 : Int64)), (.long (0 : Int64)), (.long (0 : Int64)), (.long (0 : Int64)), (.long (0 : Int64)), (.long (0 : Int64)), (.long (0 : Int64)), (.long (0 : Int64)), (.long (0 : Int64)), (.long (0 : Int64)), (.long (0 : Int64))] := A70
  show own_Ends _ _ _ _ (T66.setTop (mkF m 38 #[.val (.long x0), .second, .val (.int x1), .val (.int x2), .unset, .unset, .unset, .unset] [(.ref b38)]))
  refine own_st (fun t => XS.dup (own_here Y67) hx rfl (hb hby at_38) rfl rfl) ?_
  show own_Ends _ _ _ _ (T66.setTop (mkF m 39 #[.val (.long x0), .second, .val (.int x1), .val (.int x2), .unset, .unset, .unset, .unset] [(.ref b38), (.ref b38)]))
  refine own_st (fun t => XS.bipush (own_here Y67) hx rfl (hb hby at_39) ) ?_
  show own_Ends _ _ _ _ (T66.setTop (mkF m 41 #[.val (.long x0), .second, .val (.int x1), .val (.int x2), .unset, .unset, .unset, .unset] [(.int (6 : Int32)), (.ref b38), (.ref b38)]))
  refine own_ldcJ Y67 hx hZ hown (hw _ (List.mem_of_getElem? (i := 6) rfl)) rfl (hb hby at_41) ?_
  show own_Ends _ _ _ _ (T66.setTop (mkF m 44 #[.val (.long x0), .second, .val (.int x1), .val (.int x2), .unset, .unset, .unset, .unset] [(.long (55296 : Int64)), (.int (6 : Int32)), (.ref b38), (.ref b38)]))
  refine own_stJ Y67 hx hZ A70 g40 (i := 6) (by decide) (by decide) (Nat.le_of_ble_eq_true rfl) rfl rfl (hb hby at_44) (fun T71 h73 Y72 W74 A75 => ?_)
  replace A75 : own_A Z h73 b38 .long [(.long (0 : Int64)), (.long (9 : Int64)), (.long (10 : Int64)), (.long (13 : Int64)), (.long (32 : Int64)), (.long (55295 : Int64)), (.long (55296 : Int64)), (.long (0 : Int64)), (.long (0 : Int64)), (.long (0 : Int64)), (.long (0 : Int64)), (.long (0 : Int64)), (.long (0 : Int64)), (.long (0 : Int64)), (.long (0 : Int64)), (.long (0 : Int64))] := A75
  show own_Ends _ _ _ _ (T71.setTop (mkF m 45 #[.val (.long x0), .second, .val (.int x1), .val (.int x2), .unset, .unset, .unset, .unset] [(.ref b38)]))
  refine own_st (fun t => XS.dup (own_here Y72) hx rfl (hb hby at_45) rfl rfl) ?_
  show own_Ends _ _ _ _ (T71.setTop (mkF m 46 #[.val (.long x0), .second, .val (.int x1), .val (.int x2), .unset, .unset, .unset, .unset] [(.ref b38), (.ref b38)]))
  refine own_st (fun t => XS.bipush (own_here Y72) hx rfl (hb hby at_46) ) ?_
  show own_Ends _ _ _ _ (T71.setTop (mkF m 48 #[.val (.long x0), .second, .val (.int x1), .val (.int x2), .unset, .unset, .unset, .unset] [(.int (7 : Int32)), (.ref b38), (.ref b38)]))
  refine own_ldcJ Y72 hx hZ hown (hw _ (List.mem_of_getElem? (i := 7) rfl)) rfl (hb hby at_48) ?_
  show own_Ends _ _ _ _ (T71.setTop (mkF m 51 #[.val (.long x0), .second, .val (.int x1), .val (.int x2), .unset, .unset, .unset, .unset] [(.long (57343 : Int64)), (.int (7 : Int32)), (.ref b38), (.ref b38)]))
  refine own_stJ Y72 hx hZ A75 g40 (i := 7) (by decide) (by decide) (Nat.le_of_ble_eq_true rfl) rfl rfl (hb hby at_51) (fun T76 h78 Y77 W79 A80 => ?_)
  replace A80 : own_A Z h78 b38 .long [(.long (0 : Int64)), (.long (9 : Int64)), (.long (10 : Int64)), (.long (13 : Int64)), (.long (32 : Int64)), (.long (55295 : Int64)), (.long (55296 : Int64)), (.long (57343 : Int64)), (.long (0 : Int64)), (.long (0 : Int64)), (.long (0 : Int64)), (.long (0 : Int64)), (.long (0 : Int64)), (.long (0 : Int64)), (.long (0 : Int64)), (.long (0 : Int64))] := A80
  show own_Ends _ _ _ _ (T76.setTop (mkF m 52 #[.val (.long x0), .second, .val (.int x1), .val (.int x2), .unset, .unset, .unset, .unset] [(.ref b38)]))
  refine own_st (fun t => XS.dup (own_here Y77) hx rfl (hb hby at_52) rfl rfl) ?_
  show own_Ends _ _ _ _ (T76.setTop (mkF m 53 #[.val (.long x0), .second, .val (.int x1), .val (.int x2), .unset, .unset, .unset, .unset] [(.ref b38), (.ref b38)]))
  refine own_st (fun t => XS.bipush (own_here Y77) hx rfl (hb hby at_53) ) ?_
  show own_Ends _ _ _ _ (T76.setTop (mkF m 55 #[.val (.long x0), .second, .val (.int x1), .val (.int x2), .unset, .unset, .unset, .unset] [(.int (8 : Int32)), (.ref b38), (.ref b38)]))
  refine own_ldcJ Y77 hx hZ hown (hw _ (List.mem_of_getElem? (i := 8) rfl)) rfl (hb hby at_55) ?_
  show own_Ends _ _ _ _ (T76.setTop (mkF m 58 #[.val (.long x0), .second, .val (.int x1), .val (.int x2), .unset, .unset, .unset, .unset] [(.long (57344 : Int64)), (.int (8 : Int32)), (.ref b38), (.ref b38)]))
  refine own_stJ Y77 hx hZ A80 g40 (i := 8) (by decide) (by decide) (Nat.le_of_ble_eq_true rfl) rfl rfl (hb hby at_58) (fun T81 h83 Y82 W84 A85 => ?_)
  replace A85 : own_A Z h83 b38 .long [(.long (0 : Int64)), (.long (9 : Int64)), (.long (10 : Int64)), (.long (13 : Int64)), (.long (32 : Int64)), (.long (55295 : Int64)), (.long (55296 : Int64)), (.long (57343 : Int64)), (.long (57344 : Int64)), (.long (0 : Int64)), (.long (0 : Int64)), (.long (0 : Int64)), (.long (0 : Int64)), (.long (0 : Int64)), (.long (0 : Int64)), (.long (0 : Int64))] := A85
  show own_Ends _ _ _ _ (T81.setTop (mkF m 59 #[.val (.long x0), .second, .val (.int x1), .val (.int x2), .unset, .unset, .unset, .unset] [(.ref b38)]))
  refine own_st (fun t => XS.dup (own_here Y82) hx rfl (hb hby at_59) rfl rfl) ?_
  show own_Ends _ _ _ _ (T81.setTop (mkF m 60 #[.val (.long x0), .second, .val (.int x1), .val (.int x2), .unset, .unset, .unset, .unset] [(.ref b38), (.ref b38)]))
  refine own_st (fun t => XS.bipush (own_here Y82) hx rfl (hb hby at_60) ) ?_
  show own_Ends _ _ _ _ (T81.setTop (mkF m 62 #[.val (.long x0), .second, .val (.int x1), .val (.int x2), .unset, .unset, .unset, .unset] [(.int (9 : Int32)), (.ref b38), (.ref b38)]))
  refine own_ldcJ Y82 hx hZ hown (hw _ (List.mem_of_getElem? (i := 9) rfl)) rfl (hb hby at_62) ?_
  show own_Ends _ _ _ _ (T81.setTop (mkF m 65 #[.val (.long x0), .second, .val (.int x1), .val (.int x2), .unset, .unset, .unset, .unset] [(.long (65533 : Int64)), (.int (9 : Int32)), (.ref b38), (.ref b38)]))
  refine own_stJ Y82 hx hZ A85 g40 (i := 9) (by decide) (by decide) (Nat.le_of_ble_eq_true rfl) rfl rfl (hb hby at_65) (fun T86 h88 Y87 W89 A90 => ?_)
  replace A90 : own_A Z h88 b38 .long [(.long (0 : Int64)), (.long (9 : Int64)), (.long (10 : Int64)), (.long (13 : Int64)), (.long (32 : Int64)), (.long (55295 : Int64)), (.long (55296 : Int64)), (.long (57343 : Int64)), (.long (57344 : Int64)), (.long (65533 : Int64)), (.long (0 : Int64)), (.long (0 : Int64)), (.long (0 : Int64)), (.long (0 : Int64)), (.long (0 : Int64)), (.long (0 : Int64))] := A90
  show own_Ends _ _ _ _ (T86.setTop (mkF m 66 #[.val (.long x0), .second, .val (.int x1), .val (.int x2), .unset, .unset, .unset, .unset] [(.ref b38)]))
  refine own_st (fun t => XS.dup (own_here Y87) hx rfl (hb hby at_66) rfl rfl) ?_
  show own_Ends _ _ _ _ (T86.setTop (mkF m 67 #[.val (.long x0), .second, .val (.int x1), .val (.int x2), .unset, .unset, .unset, .unset] [(.ref b38), (.ref b38)]))
  refine own_st (fun t => XS.bipush (own_here Y87) hx rfl (hb hby at_67) ) ?_
  show own_Ends _ _ _ _ (T86.setTop (mkF m 69 #[.val (.long x0), .second, .val (.int x1), .val (.int x2), .unset, .unset, .unset, .unset] [(.int (10 : Int32)), (.ref b38), (.ref b38)]))
  refine own_ldcJ Y87 hx hZ hown (hw _ (List.mem_of_getElem? (i := 10) rfl)) rfl (hb hby at_69) ?_
  show own_Ends _ _ _ _ (T86.setTop (mkF m 72 #[.val (.long x0), .second, .val (.int x1), .val (.int x2), .unset, .unset, .unset, .unset] [(.long (65535 : Int64)), (.int (10 : Int32)), (.ref b38), (.ref b38)]))
  refine own_stJ Y87 hx hZ A90 g40 (i := 10) (by decide) (by decide) (Nat.le_of_ble_eq_true rfl) rfl rfl (hb hby at_72) (fun T91 h93 Y92 W94 A95 => ?_)
  replace A95 : own_A Z h93 b38 .long [(.long (0 : Int64)), (.long (9 : Int64)), (.long (10 : Int64)), (.long (13 : Int64)), (.long (32 : Int64)), (.long (55295 : Int64)), (.long (55296 : Int64)), (.long (57343 : Int64)), (.long (57344 : Int64)), (.long (65533 : Int64)), (.long (65535 : Int64)), (.long (0 : Int64)), (.long (0 : Int64)), (.long (0 : Int64)), (.long (0 : Int64)), (.long (0 : Int64))] := A95
  show own_Ends _ _ _ _ (T91.setTop (mkF m 73 #[.val (.long x0), .second, .val (.int x1), .val (.int x2), .unset, .unset, .unset, .unset] [(.ref b38)]))
  refine own_st (fun t => XS.dup (own_here Y92) hx rfl (hb hby at_73) rfl rfl) ?_
  show own_Ends _ _ _ _ (T91.setTop (mkF m 74 #[.val (.long x0), .second, .val (.int x1), .val (.int x2), .unset, .unset, .unset, .unset] [(.ref b38), (.ref b38)]))
  refine own_st (fun t => XS.bipush (own_here Y92) hx rfl (hb hby at_74) ) ?_
  show own_Ends _ _ _ _ (T91.setTop (mkF m 76 #[.val (.long x0), .second, .val (.int x1), .val (.int x2), .unset, .unset, .unset, .unset] [(.int (11 : Int32)), (.ref b38), (.ref b38)]))
  refine own_ldcJ Y92 hx hZ hown (hw _ (List.mem_of_getElem? (i := 11) rfl)) rfl (hb hby at_76) ?_
  show own_Ends _ _ _ _ (T91.setTop (mkF m 79 #[.val (.long x0), .second, .val (.int x1), .val (.int x2), .unset, .unset, .unset, .unset] [(.long (65536 : Int64)), (.int (11 : Int32)), (.ref b38), (.ref b38)]))
  refine own_stJ Y92 hx hZ A95 g40 (i := 11) (by decide) (by decide) (Nat.le_of_ble_eq_true rfl) rfl rfl (hb hby at_79) (fun T96 h98 Y97 W99 A100 => ?_)
  replace A100 : own_A Z h98 b38 .long [(.long (0 : Int64)), (.long (9 : Int64)), (.long (10 : Int64)), (.long (13 : Int64)), (.long (32 : Int64)), (.long (55295 : Int64)), (.long (55296 : Int64)), (.long (57343 : Int64)), (.long (57344 : Int64)), (.long (65533 : Int64)), (.long (65535 : Int64)), (.long (65536 : Int64)), (.long (0 : Int64)), (.long (0 : Int64)), (.long (0 : Int64)), (.long (0 : Int64))] := A100
  show own_Ends _ _ _ _ (T96.setTop (mkF m 80 #[.val (.long x0), .second, .val (.int x1), .val (.int x2), .unset, .unset, .unset, .unset] [(.ref b38)]))
  refine own_st (fun t => XS.dup (own_here Y97) hx rfl (hb hby at_80) rfl rfl) ?_
  show own_Ends _ _ _ _ (T96.setTop (mkF m 81 #[.val (.long x0), .second, .val (.int x1), .val (.int x2), .unset, .unset, .unset, .unset] [(.ref b38), (.ref b38)]))
  refine own_st (fun t => XS.bipush (own_here Y97) hx rfl (hb hby at_81) ) ?_
  show own_Ends _ _ _ _ (T96.setTop (mkF m 83 #[.val (.long x0), .second, .val (.int x1), .val (.int x2), .unset, .unset, .unset, .unset] [(.int (12 : Int32)), (.ref b38), (.ref b38)]))
  refine own_ldcJ Y97 hx hZ hown (hw _ (List.mem_of_getElem? (i := 12) rfl)) rfl (hb hby at_83) ?_
  show own_Ends _ _ _ _ (T96.setTop (mkF m 86 #[.val (.long x0), .second, .val (.int x1), .val (.int x2), .unset, .unset, .unset, .unset] [(.long (1114111 : Int64)), (.int (12 : Int32)), (.ref b38), (.ref b38)]))
  refine own_stJ Y97 hx hZ A100 g40 (i := 12) (by decide) (by decide) (Nat.le_of_ble_eq_true rfl) rfl rfl (hb hby at_86) (fun T101 h103 Y102 W104 A105 => ?_)
  replace A105 : own_A Z h103 b38 .long [(.long (0 : Int64)), (.long (9 : Int64)), (.long (10 : Int64)), (.long (13 : Int64)), (.long (32 : Int64)), (.long (55295 : Int64)), (.long (55296 : Int64)), (.long (57343 : Int64)), (.long (57344 : Int64)), (.long (65533 : Int64)), (.long (65535 : Int64)), (.long (65536 : Int64)), (.long (1114111 : Int64)), (.long (0 : Int64)), (.long (0 : Int64)), (.long (0 : Int64))] := A105
  show own_Ends _ _ _ _ (T101.setTop (mkF m 87 #[.val (.long x0), .second, .val (.int x1), .val (.int x2), .unset, .unset, .unset, .unset] [(.ref b38)]))
  refine own_st (fun t => XS.dup (own_here Y102) hx rfl (hb hby at_87) rfl rfl) ?_
  show own_Ends _ _ _ _ (T101.setTop (mkF m 88 #[.val (.long x0), .second, .val (.int x1), .val (.int x2), .unset, .unset, .unset, .unset] [(.ref b38), (.ref b38)]))
  refine own_st (fun t => XS.bipush (own_here Y102) hx rfl (hb hby at_88) ) ?_
  show own_Ends _ _ _ _ (T101.setTop (mkF m 90 #[.val (.long x0), .second, .val (.int x1), .val (.int x2), .unset, .unset, .unset, .unset] [(.int (13 : Int32)), (.ref b38), (.ref b38)]))
  refine own_ldcJ Y102 hx hZ hown (hw _ (List.mem_of_getElem? (i := 13) rfl)) rfl (hb hby at_90) ?_
  show own_Ends _ _ _ _ (T101.setTop (mkF m 93 #[.val (.long x0), .second, .val (.int x1), .val (.int x2), .unset, .unset, .unset, .unset] [(.long (1114112 : Int64)), (.int (13 : Int32)), (.ref b38), (.ref b38)]))
  refine own_stJ Y102 hx hZ A105 g40 (i := 13) (by decide) (by decide) (Nat.le_of_ble_eq_true rfl) rfl rfl (hb hby at_93) (fun T106 h108 Y107 W109 A110 => ?_)
  replace A110 : own_A Z h108 b38 .long [(.long (0 : Int64)), (.long (9 : Int64)), (.long (10 : Int64)), (.long (13 : Int64)), (.long (32 : Int64)), (.long (55295 : Int64)), (.long (55296 : Int64)), (.long (57343 : Int64)), (.long (57344 : Int64)), (.long (65533 : Int64)), (.long (65535 : Int64)), (.long (65536 : Int64)), (.long (1114111 : Int64)), (.long (1114112 : Int64)), (.long (0 : Int64)), (.long (0 : Int64))] := A110
  show own_Ends _ _ _ _ (T106.setTop (mkF m 94 #[.val (.long x0), .second, .val (.int x1), .val (.int x2), .unset, .unset, .unset, .unset] [(.ref b38)]))
  refine own_st (fun t => XS.dup (own_here Y107) hx rfl (hb hby at_94) rfl rfl) ?_
  show own_Ends _ _ _ _ (T106.setTop (mkF m 95 #[.val (.long x0), .second, .val (.int x1), .val (.int x2), .unset, .unset, .unset, .unset] [(.ref b38), (.ref b38)]))
  refine own_st (fun t => XS.bipush (own_here Y107) hx rfl (hb hby at_95) ) ?_
  show own_Ends _ _ _ _ (T106.setTop (mkF m 97 #[.val (.long x0), .second, .val (.int x1), .val (.int x2), .unset, .unset, .unset, .unset] [(.int (14 : Int32)), (.ref b38), (.ref b38)]))
  refine own_ldcJ Y107 hx hZ hown (hw _ (List.mem_of_getElem? (i := 14) rfl)) rfl (hb hby at_97) ?_
  show own_Ends _ _ _ _ (T106.setTop (mkF m 100 #[.val (.long x0), .second, .val (.int x1), .val (.int x2), .unset, .unset, .unset, .unset] [(.long (-9223372036854775808 : Int64)), (.int (14 : Int32)), (.ref b38), (.ref b38)]))
  refine own_stJ Y107 hx hZ A110 g40 (i := 14) (by decide) (by decide) (Nat.le_of_ble_eq_true rfl) rfl rfl (hb hby at_100) (fun T111 h113 Y112 W114 A115 => ?_)
  replace A115 : own_A Z h113 b38 .long [(.long (0 : Int64)), (.long (9 : Int64)), (.long (10 : Int64)), (.long (13 : Int64)), (.long (32 : Int64)), (.long (55295 : Int64)), (.long (55296 : Int64)), (.long (57343 : Int64)), (.long (57344 : Int64)), (.long (65533 : Int64)), (.long (65535 : Int64)), (.long (65536 : Int64)), (.long (1114111 : Int64)), (.long (1114112 : Int64)), (.long (-9223372036854775808 : Int64)), (.long (0 : Int64))] := A115
  show own_Ends _ _ _ _ (T111.setTop (mkF m 101 #[.val (.long x0), .second, .val (.int x1), .val (.int x2), .unset, .unset, .unset, .unset] [(.ref b38)]))
  refine own_st (fun t => XS.dup (own_here Y112) hx rfl (hb hby at_101) rfl rfl) ?_
  show own_Ends _ _ _ _ (T111.setTop (mkF m 102 #[.val (.long x0), .second, .val (.int x1), .val (.int x2), .unset, .unset, .unset, .unset] [(.ref b38), (.ref b38)]))
  refine own_st (fun t => XS.bipush (own_here Y112) hx rfl (hb hby at_102) ) ?_
  show own_Ends _ _ _ _ (T111.setTop (mkF m 104 #[.val (.long x0), .second, .val (.int x1), .val (.int x2), .unset, .unset, .unset, .unset] [(.int (15 : Int32)), (.ref b38), (.ref b38)]))
  refine own_ldcJ Y112 hx hZ hown (hw _ (List.mem_of_getElem? (i := 15) rfl)) rfl (hb hby at_104) ?_
  show own_Ends _ _ _ _ (T111.setTop (mkF m 107 #[.val (.long x0), .second, .val (.int x1), .val (.int x2), .unset, .unset, .unset, .unset] [(.long (9223372036854775807 : Int64)), (.int (15 : Int32)), (.ref b38), (.ref b38)]))
  refine own_stJ Y112 hx hZ A115 g40 (i := 15) (by decide) (by decide) (Nat.le_of_ble_eq_true rfl) rfl rfl (hb hby at_107) (fun T116 h118 Y117 W119 A120 => ?_)
  replace A120 : own_A Z h118 b38 .long [(.long (0 : Int64)), (.long (9 : Int64)), (.long (10 : Int64)), (.long (13 : Int64)), (.long (32 : Int64)), (.long (55295 : Int64)), (.long (55296 : Int64)), (.long (57343 : Int64)), (.long (57344 : Int64)), (.long (65533 : Int64)), (.long (65535 : Int64)), (.long (65536 : Int64)), (.long (1114111 : Int64)), (.long (1114112 : Int64)), (.long (-9223372036854775808 : Int64)), (.long (9223372036854775807 : Int64))] := A120
  show own_Ends _ _ _ _ (T116.setTop (mkF m 108 #[.val (.long x0), .second, .val (.int x1), .val (.int x2), .unset, .unset, .unset, .unset] [(.ref b38)]))
  refine own_st (fun t => XS.astore (own_here Y117) hx rfl (hb hby at_108) rfl rfl (l' := #[.val (.long x0), .second, .val (.int x1), .val (.int x2), .val (.ref b38), .unset, .unset, .unset]) rfl) ?_
  show own_Ends _ _ _ _ (T116.setTop (mkF m 110 #[.val (.long x0), .second, .val (.int x1), .val (.int x2), .val (.ref b38), .unset, .unset, .unset] []))
  have hJ121 : ∀ (T122 : State)  (c_ : Int64) (s7 : Slot) (Y123 : own_S p l e room_1 s m #[(.long x0), (.int x1), (.int x2)] below meth c n0 T122 h118 1 16)  (hs7 : One s7), own_Ends p.tables e below (own_P s n0 (own_Q_own_rm0 Z x0 x1 x2 h0 n0) room_1.cells room_1.slots) (T122.setTop (mkF m 145 #[.val (.long x0), .second, .val (.int x1), .val (.int x2), .val (.ref b38), .val (.long c_), .second, s7] [])) := by
   intro T122  c_ s7 Y123  hs7
   refine own_st (fun t => XS.lload (own_here Y123) hx rfl (hb hby at_145) rfl) ?_
   show own_Ends _ _ _ _ (T122.setTop (mkF m 147 #[.val (.long x0), .second, .val (.int x1), .val (.int x2), .val (.ref b38), .val (.long c_), .second, s7] [(.long c_)]))
   refine own_callS Y123 hx hZ (y := (⟨"com/example/deft_wiring/deftwiring/context/XmlScanner", "isAllowed", "(J)Z"⟩ : MethodName)) hown (hw _ (List.mem_of_getElem? (i := 16) rfl)) (hw _ (List.mem_of_getElem? (i := 17) rfl)) (hw _ (List.mem_of_getElem? (i := 18) rfl)) (hw _ (List.mem_of_getElem? (i := 19) rfl)) (by decide) (argsL := [(.long c_)]) (rest := []) (own_rm1 l Z a0 hw [] c_  h118 n0  ) (W := 0) (by decide) (by decide) (by decide) (by decide) rfl (by rw [hml]; rfl) (lenOf own_pd0 rfl) rfl (by show 2 * 0 + _ ≤ _; exact Nat.le_of_eq rfl) (hb hby at_147) (fun T124 h126 v127 Y125 q128 => ?_)
   obtain ⟨rfl, rfl⟩ := q128
   show own_Ends _ _ _ _ (T124.setTop (mkF m 150 #[.val (.long x0), .second, .val (.int x1), .val (.int x2), .val (.ref b38), .val (.long c_), .second, s7] [(.int (own_b (own_allow c_)))]))
   refine own_st (fun t => XS.istoreS (own_here Y125) hx rfl (hb hby at_150) rfl rfl hs7) ?_
   show own_Ends _ _ _ _ (T124.setTop (mkF m 152 #[.val (.long x0), .second, .val (.int x1), .val (.int x2), .val (.ref b38), .val (.long c_), .second, .val (.int (own_b (own_allow c_)))] []))
   refine own_st (fun t => XS.iload (own_here Y125) hx rfl (hb hby at_152) rfl) ?_
   show own_Ends _ _ _ _ (T124.setTop (mkF m 154 #[.val (.long x0), .second, .val (.int x1), .val (.int x2), .val (.ref b38), .val (.long c_), .second, .val (.int (own_b (own_allow c_)))] [(.int (own_b (own_allow c_)))]))
   refine own_st (fun t => XS.lload (own_here Y125) hx rfl (hb hby at_154) rfl) ?_
   show own_Ends _ _ _ _ (T124.setTop (mkF m 156 #[.val (.long x0), .second, .val (.int x1), .val (.int x2), .val (.ref b38), .val (.long c_), .second, .val (.int (own_b (own_allow c_)))] [(.long c_), (.int (own_b (own_allow c_)))]))
   refine own_callS Y125 hx hZ (y := (⟨"com/example/deft_wiring/deftwiring/context/XmlScannerIsAllowedPinLaw", "forbidden", "(J)Z"⟩ : MethodName)) hown (hw _ (List.mem_of_getElem? (i := 26) rfl)) (hw _ (List.mem_of_getElem? (i := 27) rfl)) (hw _ (List.mem_of_getElem? (i := 28) rfl)) (hw _ (List.mem_of_getElem? (i := 29) rfl)) (by decide) (argsL := [(.long c_)]) (rest := [(.int (own_b (own_allow c_)))]) (own_rm2 l Z a0 hw [] c_  h118 n0  ) (W := 1) (by decide) (by decide) (by decide) (by decide) rfl (by rw [hml]; rfl) (lenOf own_pd0 rfl) rfl (by show 2 * 0 + _ ≤ _; exact Nat.le_of_eq rfl) (hb hby at_156) (fun T129 h131 v132 Y130 q133 => ?_)
   obtain ⟨rfl, rfl⟩ := q133
   show own_Ends _ _ _ _ (T129.setTop (mkF m 159 #[.val (.long x0), .second, .val (.int x1), .val (.int x2), .val (.ref b38), .val (.long c_), .second, .val (.int (own_b (own_allow c_)))] [(.int (own_b (!own_allow c_))), (.int (own_b (own_allow c_)))]))
   have hJ134 : ∀ (T135 : State)  (v : Int32) (Y136 : own_S p l e room_1 s m #[(.long x0), (.int x1), (.int x2)] below meth c n0 T135 h118 1 16)  (hv : v = own_b (own_allow c_)), own_Ends p.tables e below (own_P s n0 (own_Q_own_rm0 Z x0 x1 x2 h0 n0) room_1.cells room_1.slots) (T135.setTop (mkF m 167 #[.val (.long x0), .second, .val (.int x1), .val (.int x2), .val (.ref b38), .val (.long c_), .second, .val (.int (own_b (own_allow c_)))] [(.int v), (.int (own_b (own_allow c_)))])) := by
    intro T135  v Y136  hv
    refine own_st (fun t => XS.icmpNo (own_here Y136) hx rfl (hb hby at_167) rfl (XT.ii_ne_f hv.symm)) ?_
    show own_Ends _ _ _ _ (T135.setTop (mkF m 170 #[.val (.long x0), .second, .val (.int x1), .val (.int x2), .val (.ref b38), .val (.long c_), .second, .val (.int (own_b (own_allow c_)))] []))
    refine own_st (fun t => XS.iconst (own_here Y136) hx rfl (hb hby at_170) ) ?_
    show own_Ends _ _ _ _ (T135.setTop (mkF m 171 #[.val (.long x0), .second, .val (.int x1), .val (.int x2), .val (.ref b38), .val (.long c_), .second, .val (.int (own_b (own_allow c_)))] [(.int (1 : Int32))]))
    refine own_st (fun t => XS.goto (own_here Y136) hx rfl (pc0 := 171) (pc' := 175) rfl (hb hby at_171) (by decide) (by decide)) ?_
    show own_Ends _ _ _ _ (T135.setTop (mkF m 175 #[.val (.long x0), .second, .val (.int x1), .val (.int x2), .val (.ref b38), .val (.long c_), .second, .val (.int (own_b (own_allow c_)))] [(.int (1 : Int32))]))
    refine own_retN Y136 hx hlk (t := .boolean) hret (by simp) (hb hby at_175) (by decide) (by decide) ?_
    exact rfl
   by_cases c159_137 : (own_b (!own_allow c_)) = (0 : Int32)
   ·
    refine own_st (fun t => XS.ifNo (own_here Y130) hx rfl (hb hby at_159) rfl (XT.i0_ne_f c159_137)) ?_
    show own_Ends _ _ _ _ (T129.setTop (mkF m 162 #[.val (.long x0), .second, .val (.int x1), .val (.int x2), .val (.ref b38), .val (.long c_), .second, .val (.int (own_b (own_allow c_)))] [(.int (own_b (own_allow c_)))]))
    refine own_st (fun t => XS.iconst (own_here Y130) hx rfl (hb hby at_162) ) ?_
    show own_Ends _ _ _ _ (T129.setTop (mkF m 163 #[.val (.long x0), .second, .val (.int x1), .val (.int x2), .val (.ref b38), .val (.long c_), .second, .val (.int (own_b (own_allow c_)))] [(.int (1 : Int32)), (.int (own_b (own_allow c_)))]))
    refine own_st (fun t => XS.goto (own_here Y130) hx rfl (pc0 := 163) (pc' := 167) rfl (hb hby at_163) (by decide) (by decide)) ?_
    show own_Ends _ _ _ _ (T129.setTop (mkF m 167 #[.val (.long x0), .second, .val (.int x1), .val (.int x2), .val (.ref b38), .val (.long c_), .second, .val (.int (own_b (own_allow c_)))] [(.int (1 : Int32)), (.int (own_b (own_allow c_)))]))
    exact hJ134 T129   ((1 : Int32)) Y130  (by have q := c159_137; revert q; cases own_allow c_ <;> simp [own_b])
   ·
    refine own_st (fun t => XS.ifYes (own_here Y130) hx rfl (pc0 := 159) (pc' := 166) rfl (hb hby at_159) rfl (XT.i0_ne_t c159_137) (by decide) (by decide)) ?_
    show own_Ends _ _ _ _ (T129.setTop (mkF m 166 #[.val (.long x0), .second, .val (.int x1), .val (.int x2), .val (.ref b38), .val (.long c_), .second, .val (.int (own_b (own_allow c_)))] [(.int (own_b (own_allow c_)))]))
    refine own_st (fun t => XS.iconst (own_here Y130) hx rfl (hb hby at_166) ) ?_
    show own_Ends _ _ _ _ (T129.setTop (mkF m 167 #[.val (.long x0), .second, .val (.int x1), .val (.int x2), .val (.ref b38), .val (.long c_), .second, .val (.int (own_b (own_allow c_)))] [(.int (0 : Int32)), (.int (own_b (own_allow c_)))]))
    exact hJ134 T129   ((0 : Int32)) Y130  (by have q := c159_137; revert q; cases own_allow c_ <;> simp [own_b])
  refine own_st (fun t => XS.iloadN (own_here Y117) hx rfl (hb hby at_110) rfl) ?_
  show own_Ends _ _ _ _ (T116.setTop (mkF m 111 #[.val (.long x0), .second, .val (.int x1), .val (.int x2), .val (.ref b38), .unset, .unset, .unset] [(.int x1)]))
  refine own_st (fun t => XS.iconst (own_here Y117) hx rfl (hb hby at_111) ) ?_
  show own_Ends _ _ _ _ (T116.setTop (mkF m 112 #[.val (.long x0), .second, .val (.int x1), .val (.int x2), .val (.ref b38), .unset, .unset, .unset] [(.int (1 : Int32)), (.int x1)]))
  refine own_st (fun t => XS.iand (own_here Y117) hx rfl (hb hby at_112) rfl) ?_
  show own_Ends _ _ _ _ (T116.setTop (mkF m 113 #[.val (.long x0), .second, .val (.int x1), .val (.int x2), .val (.ref b38), .unset, .unset, .unset] [(.int (x1 &&& (1 : Int32)))]))
  by_cases c113_138 : (x1 &&& (1 : Int32)) = (0 : Int32)
  ·
   refine own_st (fun t => XS.ifNo (own_here Y117) hx rfl (hb hby at_113) rfl (XT.i0_ne_f c113_138)) ?_
   show own_Ends _ _ _ _ (T116.setTop (mkF m 116 #[.val (.long x0), .second, .val (.int x1), .val (.int x2), .val (.ref b38), .unset, .unset, .unset] []))
   refine own_st (fun t => XS.lloadN (own_here Y117) hx rfl (hb hby at_116) rfl) ?_
   show own_Ends _ _ _ _ (T116.setTop (mkF m 117 #[.val (.long x0), .second, .val (.int x1), .val (.int x2), .val (.ref b38), .unset, .unset, .unset] [(.long x0)]))
   refine own_st (fun t => XS.lstore (own_here Y117) hx rfl (hb hby at_117) rfl (l' := #[.val (.long x0), .second, .val (.int x1), .val (.int x2), .val (.ref b38), .val (.long x0), .second, .unset]) rfl) ?_
   show own_Ends _ _ _ _ (T116.setTop (mkF m 119 #[.val (.long x0), .second, .val (.int x1), .val (.int x2), .val (.ref b38), .val (.long x0), .second, .unset] []))
   refine own_st (fun t => XS.goto (own_here Y117) hx rfl (pc0 := 119) (pc' := 145) rfl (hb hby at_119) (by decide) (by decide)) ?_
   show own_Ends _ _ _ _ (T116.setTop (mkF m 145 #[.val (.long x0), .second, .val (.int x1), .val (.int x2), .val (.ref b38), .val (.long x0), .second, .unset] []))
   exact hJ121 T116   (x0) (.unset) Y117  One.u
  ·
   refine own_st (fun t => XS.ifYes (own_here Y117) hx rfl (pc0 := 113) (pc' := 122) rfl (hb hby at_113) rfl (XT.i0_ne_t c113_138) (by decide) (by decide)) ?_
   show own_Ends _ _ _ _ (T116.setTop (mkF m 122 #[.val (.long x0), .second, .val (.int x1), .val (.int x2), .val (.ref b38), .unset, .unset, .unset] []))
   refine own_st (fun t => XS.iloadN (own_here Y117) hx rfl (hb hby at_122) rfl) ?_
   show own_Ends _ _ _ _ (T116.setTop (mkF m 123 #[.val (.long x0), .second, .val (.int x1), .val (.int x2), .val (.ref b38), .unset, .unset, .unset] [(.int x1)]))
   refine own_st (fun t => XS.iconst (own_here Y117) hx rfl (hb hby at_123) ) ?_
   show own_Ends _ _ _ _ (T116.setTop (mkF m 124 #[.val (.long x0), .second, .val (.int x1), .val (.int x2), .val (.ref b38), .unset, .unset, .unset] [(.int (1 : Int32)), (.int x1)]))
   refine own_st (fun t => XS.iushr (own_here Y117) hx rfl (hb hby at_124) rfl) ?_
   show own_Ends _ _ _ _ (T116.setTop (mkF m 125 #[.val (.long x0), .second, .val (.int x1), .val (.int x2), .val (.ref b38), .unset, .unset, .unset] [(.int ((x1.toUInt32 >>> ((1 : Int32) &&& 31).toUInt32).toInt32))]))
   refine own_ldcI Y117 hx hZ hown (hw _ (List.mem_of_getElem? (i := 34) rfl)) rfl (hb hby at_125) ?_
   show own_Ends _ _ _ _ (T116.setTop (mkF m 127 #[.val (.long x0), .second, .val (.int x1), .val (.int x2), .val (.ref b38), .unset, .unset, .unset] [(.int (2147483647 : Int32)), (.int ((x1.toUInt32 >>> ((1 : Int32) &&& 31).toUInt32).toInt32))]))
   refine own_st (fun t => XS.iand (own_here Y117) hx rfl (hb hby at_127) rfl) ?_
   show own_Ends _ _ _ _ (T116.setTop (mkF m 128 #[.val (.long x0), .second, .val (.int x1), .val (.int x2), .val (.ref b38), .unset, .unset, .unset] [(.int (((x1.toUInt32 >>> ((1 : Int32) &&& 31).toUInt32).toInt32) &&& (2147483647 : Int32)))]))
   refine own_st (fun t => XS.bipush (own_here Y117) hx rfl (hb hby at_128) ) ?_
   show own_Ends _ _ _ _ (T116.setTop (mkF m 130 #[.val (.long x0), .second, .val (.int x1), .val (.int x2), .val (.ref b38), .unset, .unset, .unset] [(.int (16 : Int32)), (.int (((x1.toUInt32 >>> ((1 : Int32) &&& 31).toUInt32).toInt32) &&& (2147483647 : Int32)))]))
   refine own_irem Y117 hx rfl (hb hby at_130) rfl (by decide) ?_
   show own_Ends _ _ _ _ (T116.setTop (mkF m 131 #[.val (.long x0), .second, .val (.int x1), .val (.int x2), .val (.ref b38), .unset, .unset, .unset] [(.int ((((x1.toUInt32 >>> ((1 : Int32) &&& 31).toUInt32).toInt32) &&& (2147483647 : Int32)) % (16 : Int32)))]))
   refine own_st (fun t => XS.istore (own_here Y117) hx rfl (hb hby at_131) rfl (l' := #[.val (.long x0), .second, .val (.int x1), .val (.int x2), .val (.ref b38), .unset, .unset, .val (.int ((((x1.toUInt32 >>> ((1 : Int32) &&& 31).toUInt32).toInt32) &&& (2147483647 : Int32)) % (16 : Int32)))]) rfl) ?_
   show own_Ends _ _ _ _ (T116.setTop (mkF m 133 #[.val (.long x0), .second, .val (.int x1), .val (.int x2), .val (.ref b38), .unset, .unset, .val (.int ((((x1.toUInt32 >>> ((1 : Int32) &&& 31).toUInt32).toInt32) &&& (2147483647 : Int32)) % (16 : Int32)))] []))
   generalize hi_ : ((((x1.toUInt32 >>> ((1 : Int32) &&& 31).toUInt32).toInt32) &&& (2147483647 : Int32)) % (16 : Int32)) = i_
   have hi_16 : 0 ≤ i_.toInt ∧ i_.toInt < 16 := by
     have q := c_mask (x1.toUInt32 >>> ((1 : Int32) &&& 31).toUInt32).toInt32 2147483647 31 (by decide) (by decide)
     have r := (c_irem ((x1.toUInt32 >>> ((1 : Int32) &&& 31).toUInt32).toInt32 &&& 2147483647) 16 16 rfl).1 (by rw [q]; exact Int.emod_nonneg _ (by decide))
     rw [hi_] at r
     omega
   refine own_st (fun t => XS.aload (own_here Y117) hx rfl (hb hby at_133) rfl rfl) ?_
   show own_Ends _ _ _ _ (T116.setTop (mkF m 135 #[.val (.long x0), .second, .val (.int x1), .val (.int x2), .val (.ref b38), .unset, .unset, .val (.int i_)] [(.ref b38)]))
   refine own_st (fun t => XS.iload (own_here Y117) hx rfl (hb hby at_135) rfl) ?_
   show own_Ends _ _ _ _ (T116.setTop (mkF m 137 #[.val (.long x0), .second, .val (.int x1), .val (.int x2), .val (.ref b38), .unset, .unset, .val (.int i_)] [(.int i_), (.ref b38)]))
   obtain ⟨hj0, hj1⟩ := own_idx (j := i_) (n := 16) (by omega) (by omega)
   obtain ⟨d, hd, -⟩ := own_longs (xs := [(0 : Int64), (9 : Int64), (10 : Int64), (13 : Int64), (32 : Int64), (55295 : Int64), (55296 : Int64), (57343 : Int64), (57344 : Int64), (65533 : Int64), (65535 : Int64), (65536 : Int64), (1114111 : Int64), (1114112 : Int64), (-9223372036854775808 : Int64), (9223372036854775807 : Int64)]) (i := i_.toNatClampNeg) hj1
   refine own_ldJ Y117 hx hZ A120 (i := (i_.toNatClampNeg)) hj0 rfl hj1 (v := (.long d)) hd rfl rfl (hb hby at_137) ?_
   show own_Ends _ _ _ _ (T116.setTop (mkF m 138 #[.val (.long x0), .second, .val (.int x1), .val (.int x2), .val (.ref b38), .unset, .unset, .val (.int i_)] [(.long d)]))
   refine own_st (fun t => XS.iloadN (own_here Y117) hx rfl (hb hby at_138) rfl) ?_
   show own_Ends _ _ _ _ (T116.setTop (mkF m 139 #[.val (.long x0), .second, .val (.int x1), .val (.int x2), .val (.ref b38), .unset, .unset, .val (.int i_)] [(.int x2), (.long d)]))
   refine own_st (fun t => XS.iconst (own_here Y117) hx rfl (hb hby at_139) ) ?_
   show own_Ends _ _ _ _ (T116.setTop (mkF m 140 #[.val (.long x0), .second, .val (.int x1), .val (.int x2), .val (.ref b38), .unset, .unset, .val (.int i_)] [(.int (3 : Int32)), (.int x2), (.long d)]))
   refine own_irem Y117 hx rfl (hb hby at_140) rfl (by decide) ?_
   show own_Ends _ _ _ _ (T116.setTop (mkF m 141 #[.val (.long x0), .second, .val (.int x1), .val (.int x2), .val (.ref b38), .unset, .unset, .val (.int i_)] [(.int (x2 % (3 : Int32))), (.long d)]))
   refine own_st (fun t => XS.i2l (own_here Y117) hx rfl (hb hby at_141) rfl) ?_
   show own_Ends _ _ _ _ (T116.setTop (mkF m 142 #[.val (.long x0), .second, .val (.int x1), .val (.int x2), .val (.ref b38), .unset, .unset, .val (.int i_)] [(.long ((x2 % (3 : Int32)).toInt64)), (.long d)]))
   refine own_st (fun t => XS.ladd (own_here Y117) hx rfl (hb hby at_142) rfl) ?_
   show own_Ends _ _ _ _ (T116.setTop (mkF m 143 #[.val (.long x0), .second, .val (.int x1), .val (.int x2), .val (.ref b38), .unset, .unset, .val (.int i_)] [(.long (d + ((x2 % (3 : Int32)).toInt64)))]))
   refine own_st (fun t => XS.lstore (own_here Y117) hx rfl (hb hby at_143) rfl (l' := #[.val (.long x0), .second, .val (.int x1), .val (.int x2), .val (.ref b38), .val (.long (d + ((x2 % (3 : Int32)).toInt64))), .second, .val (.int i_)]) rfl) ?_
   show own_Ends _ _ _ _ (T116.setTop (mkF m 145 #[.val (.long x0), .second, .val (.int x1), .val (.int x2), .val (.ref b38), .val (.long (d + ((x2 % (3 : Int32)).toInt64))), .second, .val (.int i_)] []))
   exact hJ121 T116   ((d + ((x2 % (3 : Int32)).toInt64))) (.val (.int i_)) Y117  (One.val rfl)
set_option maxRecDepth 65536 in
set_option maxHeartbeats 40000000 in
theorem own_comes_1 {Post : Tables → Env → Array Value → State → Outcome → State → Prop} (hpost : ∀ tb e args s v u, (limb_1_1.after args s (.returned v) u = true ∧ limb_1_2.after args s (.returned v) u = true ∧ True) → FrameEnd s (.returned v) u (Jvm.fieldLocs frame_1_writes args s ++ Jvm.arrayLocs frame_1_arrays args s ++ Jvm.staticLocs frame_1_statics s) 16 128 → Post tb e args s (.returned v) u) :
    ArmFor flags0 classFile x code maxLocals ret World_1 tables_1 room_1 Calls_1 rest_1 Pre_1 Post := by
  intro l hfl _ _ p e ha hc hk s m args below hf hA hF happ hP
  obtain ⟨hcalls, hrest, hpre⟩ := hP
  obtain ⟨-, -, -, hnamed, -, -, -, hat⟩ := (Spec.applies_iff hf).mp happ
  obtain ⟨hg, hn⟩ := and_e (Cond.before_iff.mp (show (Jvm.Cond.and given_1 narrow_1).before args s = true from hpre))
  obtain ⟨g1, g2⟩ := and_e hg
  obtain ⟨g3, g4⟩ := and_e g2
  obtain ⟨g5, g6⟩ := and_e g4
  obtain ⟨w0, w1, w2, rfl⟩ : ∃ w0 w1 w2 : Value, args = #[w0, w1, w2] := by
    have hs : args.size = 3 := by simpa [Cond.value, given_1] using g1
    obtain ⟨L⟩ := args
    match L, hs with
    | [w0, w1, w2], _ => exact ⟨w0, w1, w2, rfl⟩
  have hw := fun d (hd : d ∈ tables_1) => atoms_spec (ws := Jvm.Cond.code x code maxLocals ret :: tables_1) hat d (List.mem_cons_of_mem _ hd)
  have hfit : Fit s := fun {y c} hc i hi => by
    obtain ⟨ha, rfl⟩ := Array.getElem?_eq_some_iff.mp hc
    have q := List.all_eq_true.mp ((Array.all_eq_true_iff_forall_mem.mp hF) _ (Array.getElem_mem ha)) i (List.mem_range.mpr hi)
    simpa [Array.getElem?_eq_getElem hi] using q
  obtain ⟨i0, ei0⟩ := isL_v g3
  obtain rfl : w0 = (.long i0) := Option.some.inj ei0
  obtain ⟨i1, ei1⟩ := is_v g5
  obtain rfl : w1 = (.int i1) := Option.some.inj ei1
  obtain ⟨i2, ei2⟩ := is_v g6
  obtain rfl : w2 = (.int i2) := Option.some.inj ei2
  obtain ⟨n, o, h1, h2, h3, _, L, rfl, ⟨N, rfl⟩, hq⟩ := own_rm0 l s _ hw tables_1 i0 i1 i2  s.heap s.heap.size (Nat.le_refl _)  p e ha hc hk s m _ below hf ((Spec.applies_iff_loose hf).mp happ).1 ⟨rfl, State.Warmed39.refl s, rfl⟩ trivial
  refine ⟨n, _, h1, h2, h3, hpost _ _ _ _ _ _ ⟨Cond.after_iff.mpr rfl, Cond.after_iff.mpr (eq_i res_at (Term.int_eval (1)) rfl), trivial⟩ ⟨hq.1, hq.2.1, (hq.2.2.sift fun y hy => Or.inr (N y hy)).mono (by decide) (by decide)⟩⟩
theorem main_1_1 : Claimed_1_1 := own_comes_1 fun _ _ _ _ _ _ h hF => ⟨h.1, hF⟩
theorem main_1_2 : Claimed_1_2 := own_comes_1 fun _ _ _ _ _ _ h hF => ⟨h.2.1, hF⟩
end Jvm.Pilot.@@N@@
namespace Jvm.Pilot.@@N@@
open Jvm Jvm.ClassFile Sem Op Lib Jvm.Free Jvm.Stand Jvm.Pilot.@@N@@.Jvm.D
/-! MADE BY PROGRAM (witnessworld.py) out of the Statement's table words and the real class files: 11 classes; the members and pool entries that the words name. The judged class is class 1, her method 2. -/
namespace start1
open Jvm.ClassFile
def u (s : String) : CpInfo := .utf8 (stringToUtf16 s)
/-- a pool by its gaps: so many unusable entries, then the entry; so many at the end -/
def gap : Nat → List CpInfo → List CpInfo
  | 0, r => r
  | n + 1, r => .unusable :: gap n r
def poolList (es : List (Nat × CpInfo)) (last : Nat) : List CpInfo := es.foldr (fun e r => gap e.1 (e.2 :: r)) (gap last [])
def pool (es : List (Nat × CpInfo)) (last : Nat) : Array CpInfo := ⟨poolList es last⟩
def fileOf (pool : Array CpInfo) (this : Nat) (attrs : Array Attribute := #[]) (ms : Array MethodInfo := #[]) (fl : Nat := 33) (sup : Nat := 0) (ifs : Array Nat := #[]) (fds : Array FieldInfo := #[]) : ClassFile where
  minorVersion := 0
  majorVersion := 65
  constantPool := pool
  accessFlags := fl
  thisClass := this
  superClass := sup
  interfaces := ifs
  fields := fds
  methods := ms
  attributes := attrs
def plain (name : String) (sup : Option ClassId) : Class where
  name := name
  kind := .ordinary
  loader := none
  accessFlags := 33
  super := sup
  interfaces := #[]
  cf := none
  fields := #[]
  methods := #[]
  instanceTypes := #[]
  staticTypes := #[]
  resolved := #[]
  callSites := []
  init := .initialized
  statics := none
  mirror := none

def pool0 : Array CpInfo := pool [(5, u "<init>"), (0, u "()V"), (1, .class_ 10), (1, u "java/lang/Object")] 113

def k0m0 : Method := { name := "<init>", desc := "()V", sig := { parameters := [], returnType := none }, accessFlags := 1, code := none }
/-- java/lang/Object -/
def k0 : Class := { plain "java/lang/Object" none with
  accessFlags := 33
  interfaces := #[]
  cf := some (fileOf pool0 8 #[] #[{ accessFlags := 1, nameIndex := 5, descriptorIndex := 6, attributes := #[] }] 33 0 #[] #[])
  fields := #[]
  methods := #[k0m0]
  instanceTypes := #[]
  staticTypes := #[]
  resolved := Array.replicate 124 none
  statics := none }

def pool1 : Array CpInfo := pool [(2, .class_ 4), (1, u "java/lang/Object"), (0, u "<init>"), (0, u "()V"), (0, .long 1114111), (1, .long 32), (1, .long 9), (1, .long 10), (1, .long 13), (1, .long 55296), (1, .long 57343), (1, .long 65534), (1, .long 65535), (1, .long 55295), (1, .long 57344), (1, .long 65533), (1, .long 65536), (1, .long 1114112), (3, .long 9223372036854775808), (1, .long 9223372036854775807), (1, .integer 2147483647), (0, .methodref 43 44), (0, .class_ 45), (0, .nameAndType 46 47), (0, u "com/example/deft_wiring/deftwiring/context/XmlScanner"), (0, u "isAllowed"), (0, u "(J)Z"), (0, .methodref 49 50), (0, .class_ 51), (0, .nameAndType 52 47), (0, u "com/example/deft_wiring/deftwiring/context/XmlScannerIsAllowedPinLaw"), (0, u "forbidden"), (3, u "law"), (0, u "(JII)Z")] 4

def k1m0 : Method := { name := "<init>", desc := "()V", sig := { parameters := [], returnType := none }, accessFlags := 1, code := none }
def k1c1 : Code := { maxStack := 4, maxLocals := 2, code := method_2_code, exceptionTable := #[], attributes := #[] }
def k1m1 : Method := { name := "forbidden", desc := "(J)Z", sig := { parameters := [.long], returnType := some .boolean }, accessFlags := 10, code := some k1c1 }
def k1c2 : Code := { maxStack := 5, maxLocals := 8, code := code, exceptionTable := #[], attributes := #[] }
def k1m2 : Method := { name := "law", desc := "(JII)Z", sig := { parameters := [.long, .int, .int], returnType := some .boolean }, accessFlags := 9, code := some k1c2 }
/-- com/example/deft_wiring/deftwiring/context/XmlScannerIsAllowedPinLaw -/
def k1 : Class := { plain "com/example/deft_wiring/deftwiring/context/XmlScannerIsAllowedPinLaw" (some 0) with
  accessFlags := 49
  interfaces := #[]
  cf := some (fileOf pool1 49 #[] #[{ accessFlags := 1, nameIndex := 5, descriptorIndex := 6, attributes := #[] }, { accessFlags := 10, nameIndex := 52, descriptorIndex := 47, attributes := #[] }, { accessFlags := 9, nameIndex := 56, descriptorIndex := 57, attributes := #[] }] 49 2 #[] #[])
  fields := #[]
  methods := #[k1m0, k1m1, k1m2]
  instanceTypes := #[]
  staticTypes := #[]
  resolved := Array.replicate 62 none
  statics := none }

def pool2 : Array CpInfo := pool [(1, .class_ 2), (0, u "com/example/deft_wiring/deftwiring/context/XmlScanner$Names"), (5, .class_ 10), (1, u "com/example/deft_wiring/deftwiring/context/XmlScanner"), (2, .class_ 14), (0, u "java/lang/Object"), (2, u "bytes"), (0, u "[B"), (2, u "end"), (0, u "I"), (2, u "document"), (2, u "referenceEnd"), (2, u "names"), (0, u "Lcom/example/deft_wiring/deftwiring/context/XmlScanner$Names;"), (2, u "pos"), (125, .long 1114111), (5, u "isAllowed"), (0, u "(J)Z"), (45, u "ASCII_NAMES"), (3, .long 32), (1, .long 55295), (1, .long 10), (1, .long 9), (1, .long 13), (1, .long 57344), (1, .long 65533), (1, .long 65536), (29, u "NAMES_KEPT"), (2, u "NAME_START"), (0, u "B"), (1, u "NAME_PART")] 60

def k2c0 : Code := { maxStack := 4, maxLocals := 2, code := prog_76_method_29_code, exceptionTable := #[], attributes := #[] }
def k2m0 : Method := { name := "isAllowed", desc := "(J)Z", sig := { parameters := [.long], returnType := some .boolean }, accessFlags := 8, code := some k2c0 }
/-- com/example/deft_wiring/deftwiring/context/XmlScanner -/
def k2 : Class := { plain "com/example/deft_wiring/deftwiring/context/XmlScanner" (some 0) with
  accessFlags := 32
  interfaces := #[]
  cf := some (fileOf pool2 8 #[.nestMembers #[1]] #[{ accessFlags := 8, nameIndex := 167, descriptorIndex := 168, attributes := #[] }] 32 13 #[] #[{ accessFlags := 26, nameIndex := 262, descriptorIndex := 22, attributes := #[] }, { accessFlags := 26, nameIndex := 265, descriptorIndex := 266, attributes := #[] }, { accessFlags := 26, nameIndex := 268, descriptorIndex := 266, attributes := #[] }, { accessFlags := 26, nameIndex := 214, descriptorIndex := 18, attributes := #[] }, { accessFlags := 18, nameIndex := 17, descriptorIndex := 18, attributes := #[] }, { accessFlags := 18, nameIndex := 21, descriptorIndex := 22, attributes := #[] }, { accessFlags := 18, nameIndex := 25, descriptorIndex := 18, attributes := #[] }, { accessFlags := 18, nameIndex := 28, descriptorIndex := 22, attributes := #[] }, { accessFlags := 18, nameIndex := 31, descriptorIndex := 32, attributes := #[] }, { accessFlags := 2, nameIndex := 35, descriptorIndex := 22, attributes := #[] }])
  fields := #[{ name := "NAMES_KEPT", type := .int, accessFlags := 26, slot := 0, constantValue := 0 }, { name := "NAME_START", type := .byte, accessFlags := 26, slot := 1, constantValue := 0 }, { name := "NAME_PART", type := .byte, accessFlags := 26, slot := 2, constantValue := 0 }, { name := "ASCII_NAMES", type := (.array .byte), accessFlags := 26, slot := 3, constantValue := 0 }, { name := "bytes", type := (.array .byte), accessFlags := 18, slot := 0, constantValue := 0 }, { name := "end", type := .int, accessFlags := 18, slot := 1, constantValue := 0 }, { name := "document", type := (.array .byte), accessFlags := 18, slot := 2, constantValue := 0 }, { name := "referenceEnd", type := .int, accessFlags := 18, slot := 3, constantValue := 0 }, { name := "names", type := (.object "com/example/deft_wiring/deftwiring/context/XmlScanner$Names"), accessFlags := 18, slot := 4, constantValue := 0 }, { name := "pos", type := .int, accessFlags := 2, slot := 5, constantValue := 0 }]
  methods := #[k2m0]
  instanceTypes := #[(.array .byte), .int, (.array .byte), .int, (.object "com/example/deft_wiring/deftwiring/context/XmlScanner$Names"), .int]
  staticTypes := #[.int, .byte, .byte, (.array .byte)]
  resolved := Array.replicate 329 none
  statics := none }

def pool3 : Array CpInfo := pool [(1, u "java/lang/Cloneable"), (0, .class_ 1), (0, u "java/lang/Object"), (0, .class_ 3)] 3

/-- java/lang/Cloneable -/
def k3 : Class := { plain "java/lang/Cloneable" (some 0) with
  accessFlags := 1537
  interfaces := #[]
  cf := some (fileOf pool3 2 #[] #[] 1537 4 #[] #[])
  fields := #[]
  methods := #[]
  instanceTypes := #[]
  staticTypes := #[]
  resolved := Array.replicate 8 none
  statics := none }

def pool4 : Array CpInfo := pool [(1, u "java/io/Serializable"), (0, .class_ 1), (0, u "java/lang/Object"), (0, .class_ 3)] 3

/-- java/io/Serializable -/
def k4 : Class := { plain "java/io/Serializable" (some 0) with
  accessFlags := 1537
  interfaces := #[]
  cf := some (fileOf pool4 2 #[] #[] 1537 4 #[] #[])
  fields := #[]
  methods := #[]
  instanceTypes := #[]
  staticTypes := #[]
  resolved := Array.replicate 8 none
  statics := none }

/-- the primitive byte -/
def k5 : Class := { plain "byte" none with kind := .primitive 'B', accessFlags := 0x411 }
/-- [B -/
def k6 : Class := { plain "[B" (some 0) with kind := .array 5 .byte, interfaces := #[3, 4], accessFlags := 1041 }

/-- the primitive int -/
def k7 : Class := { plain "int" none with kind := .primitive 'I', accessFlags := 0x411 }
/-- [I -/
def k8 : Class := { plain "[I" (some 0) with kind := .array 7 .int, interfaces := #[3, 4], accessFlags := 1041 }

/-- the primitive long -/
def k9 : Class := { plain "long" none with kind := .primitive 'J', accessFlags := 0x411 }
/-- [J -/
def k10 : Class := { plain "[J" (some 0) with kind := .array 9 .long, interfaces := #[3, 4], accessFlags := 1041 }

def heap : Heap := #[]
def classes : Array Class := #[k0, k1, k2, k3, k4, k5, k6, k7, k8, k9, k10]
def interned : List (Array UInt16 × Addr) := []
def slotsUsed : Nat := 0
def theMethod : MethodId := ⟨1, 2⟩
def args0 : Array Value := #[.long 5, .int 3, .int 3]
def aboutOver (below : List Frame) : State where
  vm := { classes := classes, interned := interned.toArray }
  heap := heap
  slotsUsed := slotsUsed
  threads := #[{ frames := .invoking theMethod args0 :: below }]
def below0 : List Frame := [.native { method := ⟨0, 0⟩, args := #[] }]
def about1 : State := aboutOver below0
def p0 : Program := .bare "" "" ""
def e0 : Env := launch0.env 0 0 0
theorem w_frames : about1.frames = Frame.invoking theMethod args0 :: below0 := rfl
set_option maxRecDepth 65536 in
theorem w_args : argsFit about1.vm theMethod args0 = true := by decide +kernel
set_option maxRecDepth 65536 in
theorem w_heap : heapFits about1 = true := by decide +kernel
set_option maxRecDepth 65536 in
theorem w_runnable : about1.curStatus? = some .runnable := by decide +kernel
set_option maxRecDepth 65536 in
theorem w_alone : about1.alone = true := by decide +kernel
set_option maxRecDepth 65536 in
theorem w_named : about1.methodNamed? x = some theMethod := by decide +kernel
set_option maxRecDepth 65536 in
theorem w_hears : about1.hears theMethod below0 = true := by decide +kernel
set_option maxRecDepth 65536 in
theorem w_ripe : about1.ripe theMethod args0 below0 = true := by decide +kernel
theorem w_running : about1.status = .running := rfl
set_option maxRecDepth 65536 in
theorem w_room : about1.hasRoom e0.platform room_1 = true :=
  launch0.hasRoom_least _ room_1 (by decide +kernel) (by decide +kernel) (by decide +kernel) (by decide +kernel) (by decide +kernel) (by decide +kernel)
theorem allAtoms_all (ts : List Jvm.Cond) (a : Array Jvm.Value) (st : Jvm.State) : (allAtoms ts).before a st = ts.all (fun c => c.before a st) := by
  induction ts with
  | nil => rfl
  | cons c t ih =>
    show (Jvm.Cond.and c (allAtoms t)).before a st = _
    rw [Jvm.Cond.before_and, ih, List.all_cons]
def words1 : List Jvm.Cond := Jvm.Cond.code x code maxLocals ret :: tables_1
/-- a 'code' word, met by the world's own term for the bytes: nothing is compared byte by byte -/
theorem code_word {y : MethodName} {bytes : ByteArray} {mx : Nat} {rt : Option FieldType} {a : Array Value} {s : State} {m : MethodId} {meth : Method} {c : Code} (h1 : s.methodNamed? y = some m) (h2 : s.vm.method? m = some meth) (h3 : meth.code = some c) (h4 : c.code = bytes)
    (h5 : (c.maxLocals == mx && c.exceptionTable.isEmpty && decide (c.maxStack ≤ mostOperands) && decide (meth.sig.returnType = rt) && !meth.locks && decide (parseMethodDescriptor y.desc = some meth.sig)) = true) : (Jvm.Cond.code y bytes mx rt).before a s = true := by
  simp only [Bool.and_eq_true, beq_iff_eq, Bool.not_eq_true', decide_eq_true_eq] at h5
  obtain ⟨⟨⟨⟨⟨g1, g2⟩, g3⟩, g4⟩, g5⟩, g6⟩ := h5
  simp [Cond.before, Cond.holds, Cond.value, h1, h2, h3, h4, g1, g2, g3, g4, g5, g6]
def isCode : Jvm.Cond → Bool
  | .code _ _ _ _ => true
  | _ => false
theorem all_split {L : List Jvm.Cond} {P : Jvm.Cond → Bool} (h1 : L.all (fun c => isCode c || P c) = true) (h2 : ∀ c ∈ L.filter isCode, P c = true) : L.all P = true := by
  refine List.all_eq_true.mpr fun c hc => ?_
  have h := List.all_eq_true.mp h1 c hc
  rcases Bool.eq_false_or_eq_true (isCode c) with hi | hi
  · exact h2 c (List.mem_filter.mpr ⟨hc, hi⟩)
  · simpa [hi] using h
set_option maxRecDepth 65536 in
theorem w_c0 : (Jvm.Cond.code x code maxLocals ret).before args0 about1 = true := code_word (m := ⟨1, 2⟩) (meth := k1m2) (c := k1c2) (by decide +kernel) rfl rfl rfl (by decide +kernel)
set_option maxRecDepth 65536 in
theorem w_c1 : (Jvm.Cond.code ({ cls := "com/example/deft_wiring/deftwiring/context/XmlScanner", name := "isAllowed", desc := "(J)Z" } : Jvm.MethodName) prog_76_method_29_code (2 : Nat) (Option.some Jvm.ClassFile.FieldType.boolean)).before args0 about1 = true := code_word (m := ⟨2, 0⟩) (meth := k2m0) (c := k2c0) (by decide +kernel) rfl rfl rfl (by decide +kernel)
set_option maxRecDepth 65536 in
theorem w_c2 : (Jvm.Cond.code ({ cls := "com/example/deft_wiring/deftwiring/context/XmlScannerIsAllowedPinLaw", name := "forbidden", desc := "(J)Z" } : Jvm.MethodName) method_2_code (2 : Nat) (Option.some Jvm.ClassFile.FieldType.boolean)).before args0 about1 = true := code_word (m := ⟨1, 1⟩) (meth := k1m1) (c := k1c1) (by decide +kernel) rfl rfl rfl (by decide +kernel)
def codes1 : List Jvm.Cond := [Jvm.Cond.code x code maxLocals ret, Jvm.Cond.code ({ cls := "com/example/deft_wiring/deftwiring/context/XmlScanner", name := "isAllowed", desc := "(J)Z" } : Jvm.MethodName) prog_76_method_29_code (2 : Nat) (Option.some Jvm.ClassFile.FieldType.boolean), Jvm.Cond.code ({ cls := "com/example/deft_wiring/deftwiring/context/XmlScannerIsAllowedPinLaw", name := "forbidden", desc := "(J)Z" } : Jvm.MethodName) method_2_code (2 : Nat) (Option.some Jvm.ClassFile.FieldType.boolean)]
set_option maxRecDepth 65536 in
theorem codes_eq : words1.filter isCode = codes1 := rfl
theorem w_codes : ∀ c ∈ words1.filter isCode, c.before args0 about1 = true := by
  rw [codes_eq]
  intro c hc
  simp only [codes1, List.mem_cons, List.not_mem_nil, or_false] at hc
  rcases hc with rfl | rfl | rfl
  · exact w_c0
  · exact w_c1
  · exact w_c2
set_option maxRecDepth 65536 in
theorem w_t1 : (words1.take 24).all (fun c => isCode c || c.before args0 about1) = true := by decide +kernel
set_option maxRecDepth 65536 in
theorem w_t2 : (words1.drop 24).all (fun c => isCode c || c.before args0 about1) = true := by decide +kernel
theorem w_tables : (allAtoms (Jvm.Cond.code x code maxLocals ret :: tables_1)).before args0 about1 = true := by
  rw [allAtoms_all]
  show words1.all (fun c => c.before args0 about1) = true
  refine all_split ?_ w_codes
  rw [← List.take_append_drop 24 words1, List.all_append, w_t1, w_t2]
  rfl
set_option maxRecDepth 65536 in
theorem w_case : (Jvm.Cond.and given_1 narrow_1).before args0 about1 = true := by decide +kernel
theorem w_applies : (headSpec (Jvm.Cond.code x code maxLocals ret :: tables_1) room_1).applies x e0.platform about1 = true :=
  (Spec.applies_iff w_frames).mpr ⟨w_running, w_runnable, w_alone, w_named, w_hears, w_ripe, w_room, w_tables⟩
theorem atStart : AtStart classFile x code maxLocals ret World_1 tables_1 room_1 Calls_1 rest_1 Pre_1 launch0 p0 e0 about1 theMethod args0 below0 :=
  ⟨lists_1, trivial, launch0.admits_env _ _ _, launch0.least_env, fairChoices_fair.cas, fairChoices_fair.clock, w_frames, w_args, w_heap, w_applies, trivial, trivial, w_case⟩
end start1
theorem witness_1 : WitnessClaimed_1 := ⟨start1.p0, start1.e0, start1.about1, start1.theMethod, start1.args0, start1.below0, start1.atStart⟩
end Jvm.Pilot.@@N@@
