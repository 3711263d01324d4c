import JvmDerived
import JvmDerived.Pilot.@@N@@Statement
import JvmDerived.Pilot.@@N@@Code
set_option linter.unusedVariables false
set_option linter.unusedSimpArgs false
namespace Jvm.Pilot.@@N@@
open Jvm Jvm.ClassFile Sem Op Lib Jvm.Free Jvm.Stand Jvm.LawKit Jvm.RoadKit Bundle Jvm.Pilot.@@N@@.Jvm.D
section OwnLayer
/-- the run from A ends, and P holds of how it ends -/
def own_Ends (tb : Tables) (e : Env) (below : List Frame) (P : Outcome → State → Prop) (A : State) : Prop :=
  ∃ s₂ o, Steps tb e below A s₂ ∧ s₂.status = .running ∧ Ended s₂ below o ∧ P o s₂
theorem own_st {tb : Tables} {e : Env} {below : List Frame} {P : Outcome → State → Prop} {A B : State} (h : ∀ t, Steps tb e below B t → Steps tb e below A t) (k : own_Ends tb e below P B) : own_Ends tb e below P A := by
  obtain ⟨s2, o, h1, h2⟩ := k
  exact ⟨s2, o, h _ h1, h2⟩
/-- where the walk stands: the state T, its heap h, k cells and n slots made, nothing below n0 written -/
def own_S (p : Program) (l : Launch) (e : Env) (R : Room) (s : State) (m : MethodId) (args : Array Value) (below : List Frame) (meth : Method) (c : Code) (n0 : Nat) (T : State) (h : Heap) (k n : Nat) : Prop :=
  ∃ locs, Stand p l e R s m args below meth c T locs k n ∧ T.heap = h ∧ Fr n0 locs
def own_P (s : State) (n0 : Nat) (Qf : Option Value → Heap → Prop) (C S : Nat) (o : Outcome) (U' : State) : Prop := ∃ v L, o = .returned v ∧ (Fr n0 L ∧ Qf v U'.heap) ∧ FrameEnd s o U' L C S
/-- a body's contract: called with 'as' at the heap h0 it returns, and Qf holds of what it returns and of the heap -/
def own_Con (l : Launch) (Z : State) (y : MethodName) (bytes : ByteArray) (maxL : Nat) (ret : Option FieldType) (ws : List Jvm.Cond) (rm : Room) (as' : Array Value) (h0 : Heap) (n0 : Nat) (Qf : Option Value → Heap → Prop) : Prop :=
  MetFree l y (head1 (Jvm.Cond.code y bytes maxL ret :: ws) rm) (fun a U => a = as' ∧ Z.Warmed39 U.vm ∧ U.heap = h0) (fun _ _ _ _ _ => True) (fun _ U o U' => ∃ v L, o = .returned v ∧ (Fr n0 L ∧ Qf v U'.heap) ∧ FrameEnd U o U' L rm.cells rm.slots)
variable {p : Program} {l : Launch} {e : Env} {R : Room} {s : State} {m : MethodId} {args : Array Value} {below : List Frame} {meth : Method} {c : Code} {n0 : Nat} {T : State} {h : Heap} {k n : Nat} {Z : State} {a0 : Array Value} {P : Outcome → State → Prop}
theorem own_here (Y : own_S p l e R s m args below meth c n0 T h k n) : At T m c below := by
  obtain ⟨_, X, -⟩ := Y
  exact X.here
theorem own_body {y : MethodName} {bytes : ByteArray} {maxL : Nat} {ret : Option FieldType} {ws : List Jvm.Cond} {rm : Room} {as' : Array Value} {h0 : Heap} {Qf : Option Value → Heap → Prop} (hpn : plainFor y = true)
    (hbody : ∀ (p : Program) (e : Env) (s : State) (m : MethodId) (below : List Frame) (meth : Method) (c : Code) (T : State), p.tables.exec = Jvm.exec → Z.Warmed39 s.vm → c.code = bytes → c.maxLocals = maxL → s.vm.findClass y.cls = some m.cls → meth.name = y.name → meth.sig.returnType = ret → meth.locks = false →
      own_S p l e rm s m as' below meth c n0 T h0 0 0 → own_Ends p.tables e below (own_P s n0 Qf rm.cells rm.slots) (T.setTop (entryFrame m as' maxL))) : own_Con l Z y bytes maxL ret ws rm as' h0 n0 Qf := by
  refine MetFree.of_bodySF hpn hisR ?_
  intro p e s m args below meth c s₁ Bd hml0 hP hK
  obtain ⟨rfl, hZ, hh⟩ := hP
  have hown : s.vm.findClass y.cls = some m.cls := findClass_of_methodNamed Bd.named
  have hnm := (name_of_methodNamed Bd.named Bd.method).1
  exact hbody p e s m below meth c s₁ Bd.exec hZ Bd.bytes hml0 hown hnm Bd.returns Bd.notSynchronized ⟨[], Stand.of_body Bd, by rw [← hh, Bd.state]; rfl, Fr.nil n0⟩
theorem own_leave (Y : own_S p l e R s m args below meth c n0 T h k n) (hlk : meth.locks = false) {v : Option Value} (hv : meth.sig.returnType = none → v = none) {Qf : Option Value → Heap → Prop} {C S : Nat} (hk : k ≤ C) (hn : n ≤ S) (hQ : Qf v h) {A : State}
    (st : ∀ (locs : List Loc) (fs : List Frame), Stand p l e R s m args below meth c T locs k n → (∀ (f : JFrame) (acts : List Action), f.method = m → f.locked = none → f.entered = [] → (doReturn e (T.setTop f) acts v).1 = T.setFrames fs) → Steps p.tables e below A (T.setFrames fs)) : own_Ends p.tables e below (own_P s n0 Qf C S) A := by
  obtain ⟨locs, X, e1, N⟩ := Y
  obtain ⟨fs, hr, hrun, hended, hW, hsame⟩ := X.leave hv hlk
  refine ⟨_, _, st locs fs X hr, hrun, hended, v, locs, rfl, ⟨N, ?_⟩, ⟨_, rfl⟩, hW, hsame.mono hk hn⟩
  show Qf v T.heap
  rw [e1]; exact hQ
theorem own_ret (Y : own_S p l e R s m args below meth c n0 T h k n) (hx : p.tables.exec = Jvm.exec) (hlk : meth.locks = false) {pc : Nat} {Ls : Array Slot} {w : Value} {t : FieldType} {i : Instr} {rest : List Value} (hret : meth.sig.returnType = some t) (hd : decode c.code pc = .ok (i, 1)) (hn : narrow t w = w)
    (hi : (i = .ireturn ∧ (t = .int ∨ t = .boolean ∨ t = .byte ∨ t = .char ∨ t = .short) ∧ ∃ z, w = .int z) ∨ (i = .lreturn ∧ t = .long ∧ ∃ z, w = .long z) ∨ (i = .dreturn ∧ t = .double ∧ ∃ z, w = .double z) ∨ (i = .freturn ∧ t = .float ∧ ∃ z, w = .float z) ∨ (i = .areturn ∧ t.isReference = true ∧ w.isRef = true))
    {Qf : Option Value → Heap → Prop} {C S : Nat} (hk : k ≤ C) (hs : n ≤ S) (hQ : Qf (some w) h) : own_Ends p.tables e below (own_P s n0 Qf C S) (T.setTop (mkF m pc Ls (w :: rest))) :=
  own_leave Y hlk (fun q => by rw [hret] at q; cases q) hk hs hQ fun _ _ X hr => retOut X hx hret hn hi hd hr
theorem own_retI (Y : own_S p l e R s m args below meth c n0 T h k n) (hx : p.tables.exec = Jvm.exec) (hlk : meth.locks = false) {pc : Nat} {Ls : Array Slot} {z : Int32} {rest : List Value} (hret : meth.sig.returnType = some .int) (hd : decode c.code pc = .ok (.ireturn, 1))
    {Qf : Option Value → Heap → Prop} {C S : Nat} (hk : k ≤ C) (hs : n ≤ S) (hQ : Qf (some (.int z)) h) : own_Ends p.tables e below (own_P s n0 Qf C S) (T.setTop (mkF m pc Ls (.int z :: rest))) :=
  own_ret Y hx hlk hret hd rfl (Or.inl ⟨rfl, Or.inl rfl, _, rfl⟩) hk hs hQ
theorem own_retN (Y : own_S p l e R s m args below meth c n0 T h k n) (hx : p.tables.exec = Jvm.exec) (hlk : meth.locks = false) {pc : Nat} {Ls : Array Slot} {z : Int32} {t : FieldType} {rest : List Value} (hret : meth.sig.returnType = some t) (ht : t = .boolean ∨ t = .byte ∨ t = .char ∨ t = .short) (hd : decode c.code pc = .ok (.ireturn, 1))
    {Qf : Option Value → Heap → Prop} {C S : Nat} (hk : k ≤ C) (hs : n ≤ S) (hQ : Qf (some (.int (nar t z))) h) : own_Ends p.tables e below (own_P s n0 Qf C S) (T.setTop (mkF m pc Ls (.int z :: rest))) :=
  own_leave Y hlk (fun q => by rw [hret] at q; cases q) hk hs hQ fun _ _ X hr => retN X hx hret ht hd hr
theorem own_retJ (Y : own_S p l e R s m args below meth c n0 T h k n) (hx : p.tables.exec = Jvm.exec) (hlk : meth.locks = false) {pc : Nat} {Ls : Array Slot} {z : Int64} {rest : List Value} (hret : meth.sig.returnType = some .long) (hd : decode c.code pc = .ok (.lreturn, 1))
    {Qf : Option Value → Heap → Prop} {C S : Nat} (hk : k ≤ C) (hs : n ≤ S) (hQ : Qf (some (.long z)) h) : own_Ends p.tables e below (own_P s n0 Qf C S) (T.setTop (mkF m pc Ls (.long z :: rest))) :=
  own_ret Y hx hlk hret hd rfl (Or.inr (Or.inl ⟨rfl, rfl, _, rfl⟩)) hk hs hQ
theorem own_retA (Y : own_S p l e R s m args below meth c n0 T h k n) (hx : p.tables.exec = Jvm.exec) (hlk : meth.locks = false) {pc : Nat} {Ls : Array Slot} {w : Value} {t : FieldType} {rest : List Value} (hret : meth.sig.returnType = some t) (ht : t.isReference = true) (hw : w.isRef = true) (hn : narrow t w = w) (hd : decode c.code pc = .ok (.areturn, 1))
    {Qf : Option Value → Heap → Prop} {C S : Nat} (hk : k ≤ C) (hs : n ≤ S) (hQ : Qf (some w) h) : own_Ends p.tables e below (own_P s n0 Qf C S) (T.setTop (mkF m pc Ls (w :: rest))) :=
  own_ret Y hx hlk hret hd hn (Or.inr (Or.inr (Or.inr (Or.inr ⟨rfl, ht, hw⟩)))) hk hs hQ
theorem own_retV (Y : own_S p l e R s m args below meth c n0 T h k n) (hx : p.tables.exec = Jvm.exec) (hlk : meth.locks = false) {pc : Nat} {Ls : Array Slot} (hret : meth.sig.returnType = none) (hd : decode c.code pc = .ok (.return_, 1))
    {Qf : Option Value → Heap → Prop} {C S : Nat} (hk : k ≤ C) (hs : n ≤ S) (hQ : Qf none h) : own_Ends p.tables e below (own_P s n0 Qf C S) (T.setTop (mkF m pc Ls [])) :=
  own_leave Y hlk (fun _ => rfl) hk hs hQ fun _ _ X hr => X.returnOut hx hret hd hr
/-! fields -/
theorem own_getF (Y : own_S p l e R s m args below meth c n0 T h k n) (hx : p.tables.exec = Jvm.exec) (hZ : Z.Warmed39 s.vm) {own R0 O f d host : String} {index : Nat} (hown : s.vm.findClass own = some m.cls) (w : (Jvm.Cond.fieldLink own index R0 f d).before a0 Z = true ∨ (Jvm.Cond.fieldLinkNest own index R0 f d host).before a0 Z = true) (via : Via Z R0 O f d) {a : Addr} {v : Value} (F : Fld Z h a O f d v)
    {g : JFrame} (hg : g.method = m) {rest : List Value} (hs : g.stack = .ref a :: rest) (hd : decode c.code g.pc = .ok (.getfield index, 3)) (K : ∀ T', own_S p l e R s m args below meth c n0 T' h k n → own_Ends p.tables e below P (T'.setTop { g with pc := g.pc + 3, stack := v :: rest })) : own_Ends p.tables e below P (T.setTop g) := by
  obtain ⟨locs, X, e1, N⟩ := Y
  obtain ⟨T', X', e', st⟩ := getF X hx hZ hown w via e1 F hg hs hd
  exact own_st st (K T' ⟨locs, X', e', N⟩)
theorem own_putF (Y : own_S p l e R s m args below meth c n0 T h k n) (hx : p.tables.exec = Jvm.exec) (hZ : Z.Warmed39 s.vm) {own R0 O f d host C : String} {index kk : Nat} {ty : FieldType} (hown : s.vm.findClass own = some m.cls) (w : (Jvm.Cond.fieldLink own index R0 f d).before a0 Z = true ∨ (Jvm.Cond.fieldLinkNest own index R0 f d host).before a0 Z = true) (via : Via Z R0 O f d) {a : Addr} {v old : Value} (F : Fld Z h a O f d old) (E : Exa Z h a C)
    (L : (Jvm.Cond.lays C O f d).before a0 Z = true ∨ ((Jvm.Cond.laysFinal C O f d).before a0 Z = true ∧ own = O ∧ meth.name = "<init>")) (wi : (Jvm.Cond.instantiable C kk).before a0 Z = true) (ha : n0 ≤ a) (hty : parseFieldDescriptor d = some ty) (hn : narrow ty v = v) (hf : fits ty v = true) {g : JFrame} (hg : g.method = m) {rest : List Value} (hs : g.stack = v :: .ref a :: rest) (hd : decode c.code g.pc = .ok (.putfield index, 3))
    (K : ∀ T' h', own_S p l e R s m args below meth c n0 T' h' k n → Wr h h' a (Jvm.RoadKit.slotOf Z O f d) v → Fld Z h' a O f d v → own_Ends p.tables e below P (T'.setTop { g with pc := g.pc + 3, stack := rest })) : own_Ends p.tables e below P (T.setTop g) := by
  obtain ⟨locs, X, e1, N⟩ := Y
  obtain ⟨T', h', X', e', W, st⟩ := putF X hx hZ hown w via e1 F E L wi hty hn hf hg hs hd
  exact own_st st (K T' h' ⟨_, X', e', Fr.snoc X' N ha⟩ W (F.same W))
theorem own_putFN (Y : own_S p l e R s m args below meth c n0 T h k n) (hx : p.tables.exec = Jvm.exec) (hZ : Z.Warmed39 s.vm) {own R0 O f d C : String} {index kk : Nat} {ty : FieldType} (hown : s.vm.findClass own = some m.cls) (w : (Jvm.Cond.fieldLink own index R0 f d).before a0 Z = true) (via : Via Z R0 O f d) {a : Addr} {v v' old : Value} (F : Fld Z h a O f d old) (E : Exa Z h a C)
    (L : (Jvm.Cond.lays C O f d).before a0 Z = true ∨ ((Jvm.Cond.laysFinal C O f d).before a0 Z = true ∧ own = O ∧ meth.name = "<init>")) (wi : (Jvm.Cond.instantiable C kk).before a0 Z = true) (ha : n0 ≤ a) (hty : parseFieldDescriptor d = some ty) (hn : narrow ty v = v') (hf : fits ty v' = true) {g : JFrame} (hg : g.method = m) {rest : List Value} (hs : g.stack = v :: .ref a :: rest) (hd : decode c.code g.pc = .ok (.putfield index, 3))
    (K : ∀ T' h', own_S p l e R s m args below meth c n0 T' h' k n → Wr h h' a (Jvm.RoadKit.slotOf Z O f d) v' → Fld Z h' a O f d v' → own_Ends p.tables e below P (T'.setTop { g with pc := g.pc + 3, stack := rest })) : own_Ends p.tables e below P (T.setTop g) := by
  obtain ⟨locs, X, e1, N⟩ := Y
  obtain ⟨T', h', X', e', W, st⟩ := putFN X hx hZ hown w via e1 F E L wi hty hn hf hg hs hd
  exact own_st st (K T' h' ⟨_, X', e', Fr.snoc X' N ha⟩ W (F.same W))
theorem own_getS (Y : own_S p l e R s m args below meth c n0 T h k n) (hx : p.tables.exec = Jvm.exec) (hZ : Z.Warmed39 s.vm) {own R0 O f d host : String} {index : Nat} (hown : s.vm.findClass own = some m.cls) (w : (Jvm.Cond.fieldLink own index R0 f d).before a0 Z = true ∨ (Jvm.Cond.fieldLinkNest own index R0 f d host).before a0 Z = true) (via : Via Z R0 O f d) {v : Value} (F : Sta Z h O f d v)
    {g : JFrame} (hg : g.method = m) (hd : decode c.code g.pc = .ok (.getstatic index, 3)) (K : ∀ T', own_S p l e R s m args below meth c n0 T' h k n → own_Ends p.tables e below P (T'.setTop { g with pc := g.pc + 3, stack := v :: g.stack })) : own_Ends p.tables e below P (T.setTop g) := by
  obtain ⟨locs, X, e1, N⟩ := Y
  obtain ⟨T', X', e', st⟩ := getS2 X hx hZ hown w via e1 F hg hd
  exact own_st st (K T' ⟨locs, X', e', N⟩)
/-! new objects -/
theorem own_new (Y : own_S p l e R s m args below meth c n0 T h k n) (hx : p.tables.exec = Jvm.exec) (hZ : Z.Warmed39 s.vm) {own C : String} {index nn : Nat} (hown : s.vm.findClass own = some m.cls) (w : (Jvm.Cond.classLink own index C).before a0 Z = true) (wi : (Jvm.Cond.instantiable C nn).before a0 Z = true) (wz : (Jvm.Cond.initialized C).before a0 Z = true)
    {g : JFrame} (hg : g.method = m) (hd : decode c.code g.pc = .ok (.new index, 3)) (hc : k + 1 ≤ R.cells) (hl : n + nn ≤ R.slots)
    (K : ∀ T' h' b, b = h.size → own_S p l e R s m args below meth c n0 T' h' (k + 1) (n + nn) → Ext h h' → Exa Z h' b C → (∀ (O nm d : String) (ty : FieldType), Laid Z a0 C O nm d → parseFieldDescriptor d = some ty → Fld Z h' b O nm d (defaultValue ty)) →
      own_Ends p.tables e below P (T'.setTop { g with pc := g.pc + 3, stack := .ref b :: g.stack })) : own_Ends p.tables e below P (T.setTop g) := by
  obtain ⟨locs, X, e1, N⟩ := Y
  obtain ⟨T', h', X', e', E, A, D, -, st⟩ := newO X hx hZ hown w wi wz e1 hg hd hc hl
  exact own_st st (K T' h' _ rfl ⟨locs, X', e', N⟩ E A (fun _ _ _ _ q r => D q r))
theorem own_initO (Y : own_S p l e R s m args below meth c n0 T h k n) (hx : p.tables.exec = Jvm.exec) (hZ : Z.Warmed39 s.vm) {own : String} {idx : Nat} (hown : s.vm.findClass own = some m.cls) (w1 : (Jvm.Cond.methodLink own idx Lib.objectInit).before a0 Z = true) (w2 : (Jvm.Cond.instanceMethod Lib.objectInit).before a0 Z = true) (w3 : (Jvm.Cond.code Lib.objectInit ⟨#[0xb1]⟩ 1 none).before a0 Z = true)
    {g : JFrame} (hg : g.method = m) (hsize : g.locals.size = c.maxLocals) {a : Addr} {rest : List Value} (hs : g.stack = .ref a :: rest) (hd : decode c.code g.pc = .ok (.invokespecial idx, 3)) (hf : 1 ≤ R.frames) {W : Nat} (hW : 2 * g.monitorRoom + (rest.map fun v => v.category).sum ≤ W) (hl : W + 12 ≤ R.locals)
    (K : ∀ T', own_S p l e R s m args below meth c n0 T' h k n → own_Ends p.tables e below P (T'.setTop { g with pc := g.pc + 3, stack := rest })) : own_Ends p.tables e below P (T.setTop g) := by
  obtain ⟨locs, X, e1, N⟩ := Y
  obtain ⟨T', X', e', st⟩ := initO X hx hZ hown w1 w2 w3 e1 hg hsize hs hd hf hW hl
  exact own_st st (K T' ⟨locs, X', e', N⟩)
/-! arrays: the cell's slots are the list vs -/
def own_A (Z : State) (h : Heap) (a : Addr) (ty : FieldType) (vs : List Value) : Prop := ∃ c : Cell, Arr Z h a c ty ∧ c.slots.toList = vs ∧ vs.length < 2 ^ 31
theorem own_A.lt {a : Addr} {ty : FieldType} {vs : List Value} (A : own_A Z h a ty vs) : a < h.size := by obtain ⟨c, A, -⟩ := A; exact A.lt
theorem own_A.ext {h' : Heap} {a : Addr} {ty : FieldType} {vs : List Value} (A : own_A Z h a ty vs) (E : Ext h h') : own_A Z h' a ty vs := by obtain ⟨c, A, r⟩ := A; exact ⟨c, A.ext E, r⟩
theorem own_A.other {h' : Heap} {a b : Addr} {sl : Nat} {v : Value} {ty : FieldType} {vs : List Value} (A : own_A Z h a ty vs) (W : Wr h h' b sl v) (q : a ≠ b) : own_A Z h' a ty vs := by obtain ⟨c, A, r⟩ := A; exact ⟨c, A.other W q, r⟩
theorem own_A.keep {h' : Heap} {a : Addr} {ws : List Addr} {ty : FieldType} {vs : List Value} (A : own_A Z h a ty vs) (K : Keep h h' ws) (q : a ∉ ws) : own_A Z h' a ty vs := by obtain ⟨c, A, r⟩ := A; exact ⟨c, ⟨K.2.1 a c A.1 q, A.2⟩, r⟩
theorem own_sz {c : Cell} {vs : List Value} (q : c.slots.toList = vs) : c.slots.size = vs.length := by rw [← q]; simp
theorem own_in {c : Cell} {vs : List Value} {j : Int32} {i : Nat} (q : c.slots.toList = vs) (hj : ¬ j < 0) (hi : j.toNatClampNeg = i) (hl : i < vs.length) : ¬ (j < 0 ∨ c.slots.size ≤ j.toNatClampNeg) := by
  rw [own_sz q, hi]; intro z; rcases z with z | z
  · exact hj z
  · omega
theorem own_get {c : Cell} {vs : List Value} {j : Int32} {i : Nat} {v : Value} (q : c.slots.toList = vs) (hi : j.toNatClampNeg = i) (hv : vs[i]? = some v) : c.slots[j.toNatClampNeg]? = some v := by
  rw [hi, ← Array.getElem?_toList, q, hv]
theorem own_A.set {h' : Heap} {a : Addr} {ty : FieldType} {vs : List Value} {cl : Cell} {i : Nat} {v : Value} (A : Arr Z h a cl ty) (q : cl.slots.toList = vs) (hl : vs.length < 2 ^ 31) (W : Wr h h' a i v) : own_A Z h' a ty (vs.set i v) :=
  ⟨_, A.same W, by simp [Cell.setSlot, q], by simpa using hl⟩
theorem own_newP (Y : own_S p l e R s m args below meth c n0 T h k n) (hx : p.tables.exec = Jvm.exec) (hZ : Z.Warmed39 s.vm) {aty : ArrayType} (w : (Jvm.Cond.arrayClass (newarray.typeOf aty)).before a0 Z = true) {g : JFrame} (hg : g.method = m) (hd : decode c.code g.pc = .ok (.newarray aty, 2)) {z : Int32} {rest : List Value} (hs : g.stack = .int z :: rest)
    (hz : ¬ z < 0) {nz cap : Nat} (hn : z.toNatClampNeg = nz) (hcap : nz ≤ cap) (hb : cap * 8 ≤ 536870912) (hc : k + 1 ≤ R.cells) (hl : n + cap ≤ R.slots) {ty : FieldType} (hty : newarray.typeOf aty = ty)
    (K : ∀ T' h' b, b = h.size → own_S p l e R s m args below meth c n0 T' h' (k + 1) (n + cap) → Ext h h' → own_A Z h' b ty (List.replicate nz (defaultValue ty)) → own_Ends p.tables e below P (T'.setTop { g with pc := g.pc + 2, stack := .ref b :: rest })) : own_Ends p.tables e below P (T.setTop g) := by
  obtain ⟨locs, X, e1, N⟩ := Y
  subst hty
  obtain ⟨T', h', cA, X', e', E, A, st⟩ := newP X hx hZ w e1 hg hd hs hz (cap := cap) (by rw [hn]; exact hcap) hb hc hl
  refine own_st st (K T' h' _ rfl ⟨locs, X', e', N⟩ E ⟨_, A, ?_, ?_⟩)
  · simp [newA, hn]
  · simp; omega
theorem own_newR (Y : own_S p l e R s m args below meth c n0 T h k n) (hx : p.tables.exec = Jvm.exec) (hZ : Z.Warmed39 s.vm) {own C : String} {index : Nat} (hown : s.vm.findClass own = some m.cls) (w1 : (Jvm.Cond.classLink own index C).before a0 Z = true) (w2 : (Jvm.Cond.arrayOver (.object C)).before a0 Z = true) {g : JFrame} (hg : g.method = m) (hd : decode c.code g.pc = .ok (.anewarray index, 3)) {z : Int32} {rest : List Value} (hs : g.stack = .int z :: rest)
    (hz : ¬ z < 0) {nz cap : Nat} (hn : z.toNatClampNeg = nz) (hcap : nz ≤ cap) (hb : cap * 8 ≤ 536870912) (hc : k + 1 ≤ R.cells) (hl : n + cap ≤ R.slots)
    (K : ∀ T' h' b, b = h.size → own_S p l e R s m args below meth c n0 T' h' (k + 1) (n + cap) → Ext h h' → own_A Z h' b (.object C) (List.replicate nz .null) → own_Ends p.tables e below P (T'.setTop { g with pc := g.pc + 3, stack := .ref b :: rest })) : own_Ends p.tables e below P (T.setTop g) := by
  obtain ⟨locs, X, e1, N⟩ := Y
  obtain ⟨T', h', cA, X', e', E, A, O, st⟩ := newR X hx hZ hown w1 w2 e1 hg hd hs hz (cap := cap) (by rw [hn]; exact hcap) hb hc hl
  refine own_st st (K T' h' _ rfl ⟨locs, X', e', N⟩ E ⟨_, A, ?_, ?_⟩)
  · simp [newA, hn, defaultValue]
  · simp; omega
theorem own_mono (Y : own_S p l e R s m args below meth c n0 T h k n) {k' n' : Nat} (hk : k ≤ k') (hn : n ≤ n') : own_S p l e R s m args below meth c n0 T h k' n' := by
  obtain ⟨locs, X, r⟩ := Y
  exact ⟨locs, { X with same := X.same.mono hk hn }, r⟩
theorem own_stI (Y : own_S p l e R s m args below meth c n0 T h k n) (hx : p.tables.exec = Jvm.exec) (hZ : Z.Warmed39 s.vm) {a : Addr} {vs : List Value} (A : own_A Z h a .int vs) (ha : n0 ≤ a) {j x : Int32} {i : Nat} (hj : ¬ j < 0) (hi : j.toNatClampNeg = i) (hl : i < vs.length) {g : JFrame} (hg : g.method = m) {rest : List Value} (hs : g.stack = .int x :: .int j :: .ref a :: rest) (hd : decode c.code g.pc = .ok (.iastore, 1))
    (K : ∀ T' h', own_S p l e R s m args below meth c n0 T' h' k n → Wr h h' a i (.int x) → own_A Z h' a .int (vs.set i (.int x)) → own_Ends p.tables e below P (T'.setTop { g with pc := g.pc + 1, stack := rest })) : own_Ends p.tables e below P (T.setTop g) := by
  obtain ⟨locs, X, e1, N⟩ := Y
  obtain ⟨cl, A, q, r⟩ := A
  obtain ⟨T', h', X', e', W, st⟩ := stI X hx hZ e1 A (own_in q hj hi hl) hg hs hd
  have W' := W; rw [hi] at W'
  exact own_st st (K T' h' ⟨_, X', e', Fr.snoc X' N ha⟩ W' (own_A.set A q r W'))
theorem own_stJ (Y : own_S p l e R s m args below meth c n0 T h k n) (hx : p.tables.exec = Jvm.exec) (hZ : Z.Warmed39 s.vm) {a : Addr} {vs : List Value} (A : own_A Z h a .long vs) (ha : n0 ≤ a) {j : Int32} {x : Int64} {i : Nat} (hj : ¬ j < 0) (hi : j.toNatClampNeg = i) (hl : i < vs.length) {g : JFrame} (hg : g.method = m) {rest : List Value} (hs : g.stack = .long x :: .int j :: .ref a :: rest) (hd : decode c.code g.pc = .ok (.lastore, 1))
    (K : ∀ T' h', own_S p l e R s m args below meth c n0 T' h' k n → Wr h h' a i (.long x) → own_A Z h' a .long (vs.set i (.long x)) → own_Ends p.tables e below P (T'.setTop { g with pc := g.pc + 1, stack := rest })) : own_Ends p.tables e below P (T.setTop g) := by
  obtain ⟨locs, X, e1, N⟩ := Y
  obtain ⟨cl, A, q, r⟩ := A
  obtain ⟨T', h', X', e', W, st⟩ := stJ X hx hZ e1 A (own_in q hj hi hl) hg hs hd
  have W' := W; rw [hi] at W'
  exact own_st st (K T' h' ⟨_, X', e', Fr.snoc X' N ha⟩ W' (own_A.set A q r W'))
theorem own_stB (Y : own_S p l e R s m args below meth c n0 T h k n) (hx : p.tables.exec = Jvm.exec) (hZ : Z.Warmed39 s.vm) {a : Addr} {vs : List Value} (A : own_A Z h a .byte vs) (ha : n0 ≤ a) {j x : Int32} {i : Nat} (hj : ¬ j < 0) (hi : j.toNatClampNeg = i) (hl : i < vs.length) {g : JFrame} (hg : g.method = m) {rest : List Value} (hs : g.stack = .int x :: .int j :: .ref a :: rest) (hd : decode c.code g.pc = .ok (.bastore, 1))
    (K : ∀ T' h', own_S p l e R s m args below meth c n0 T' h' k n → Wr h h' a i (.int x.toInt8.toInt32) → own_A Z h' a .byte (vs.set i (.int x.toInt8.toInt32)) → own_Ends p.tables e below P (T'.setTop { g with pc := g.pc + 1, stack := rest })) : own_Ends p.tables e below P (T.setTop g) := by
  obtain ⟨locs, X, e1, N⟩ := Y
  obtain ⟨cl, A, q, r⟩ := A
  obtain ⟨T', h', X', e', W, st⟩ := stB X hx hZ e1 A (own_in q hj hi hl) hg hs hd
  have W' := W; rw [hi] at W'
  exact own_st st (K T' h' ⟨_, X', e', Fr.snoc X' N ha⟩ W' (own_A.set A q r W'))
theorem own_stC (Y : own_S p l e R s m args below meth c n0 T h k n) (hx : p.tables.exec = Jvm.exec) (hZ : Z.Warmed39 s.vm) {a : Addr} {vs : List Value} (A : own_A Z h a .char vs) (ha : n0 ≤ a) {j x : Int32} {i : Nat} (hj : ¬ j < 0) (hi : j.toNatClampNeg = i) (hl : i < vs.length) {g : JFrame} (hg : g.method = m) {rest : List Value} (hs : g.stack = .int x :: .int j :: .ref a :: rest) (hd : decode c.code g.pc = .ok (.castore, 1))
    (K : ∀ T' h', own_S p l e R s m args below meth c n0 T' h' k n → Wr h h' a i (.int x.toUInt32.toUInt16.toUInt32.toInt32) → own_A Z h' a .char (vs.set i (.int x.toUInt32.toUInt16.toUInt32.toInt32)) → own_Ends p.tables e below P (T'.setTop { g with pc := g.pc + 1, stack := rest })) : own_Ends p.tables e below P (T.setTop g) := by
  obtain ⟨locs, X, e1, N⟩ := Y
  obtain ⟨cl, A, q, r⟩ := A
  obtain ⟨T', h', X', e', W, st⟩ := stC X hx hZ e1 A (own_in q hj hi hl) hg hs hd
  have W' := W; rw [hi] at W'
  exact own_st st (K T' h' ⟨_, X', e', Fr.snoc X' N ha⟩ W' (own_A.set A q r W'))
theorem own_len (Y : own_S p l e R s m args below meth c n0 T h k n) (hx : p.tables.exec = Jvm.exec) (hZ : Z.Warmed39 s.vm) {a : Addr} {ty : FieldType} {vs : List Value} (A : own_A Z h a ty vs) {z : Int32} (hz : vs.length.toInt32 = z) {g : JFrame} (hg : g.method = m) {rest : List Value} (hs : g.stack = .ref a :: rest) (hd : decode c.code g.pc = .ok (.arraylength, 1))
    (K : own_Ends p.tables e below P (T.setTop { g with pc := g.pc + 1, stack := .int z :: rest })) : own_Ends p.tables e below P (T.setTop g) := by
  obtain ⟨locs, X, e1, N⟩ := Y
  obtain ⟨cl, A, q, r⟩ := A
  refine own_st (fun t => X.arraylength hx (by rw [e1]; exact A.1) (State.isArrayOf_alike hZ.alike A.2.1) hg hs hd t) ?_
  rw [own_sz q, hz]; exact K
theorem own_ldI (Y : own_S p l e R s m args below meth c n0 T h k n) (hx : p.tables.exec = Jvm.exec) (hZ : Z.Warmed39 s.vm) {a : Addr} {vs : List Value} (A : own_A Z h a .int vs) {j : Int32} {i : Nat} (hj : ¬ j < 0) (hi : j.toNatClampNeg = i) (hl : i < vs.length) {v : Value} (hv : vs[i]? = some v) {g : JFrame} (hg : g.method = m) {rest : List Value} (hs : g.stack = .int j :: .ref a :: rest) (hd : decode c.code g.pc = .ok (.iaload, 1))
    (K : own_Ends p.tables e below P (T.setTop { g with pc := g.pc + 1, stack := v :: rest })) : own_Ends p.tables e below P (T.setTop g) := by
  obtain ⟨locs, X, e1, N⟩ := Y
  obtain ⟨cl, A, q, r⟩ := A
  exact own_st (fun t => X.iaload hx (by rw [e1]; exact A.1) (State.isArrayOf_alike hZ.alike A.2.1) A.2.2 (own_in q hj hi hl) (own_get q hi hv) hg hs hd t) K
theorem own_ldB (Y : own_S p l e R s m args below meth c n0 T h k n) (hx : p.tables.exec = Jvm.exec) (hZ : Z.Warmed39 s.vm) {a : Addr} {vs : List Value} (A : own_A Z h a .byte vs) {j : Int32} {i : Nat} (hj : ¬ j < 0) (hi : j.toNatClampNeg = i) (hl : i < vs.length) {v : Value} (hv : vs[i]? = some v) {g : JFrame} (hg : g.method = m) {rest : List Value} (hs : g.stack = .int j :: .ref a :: rest) (hd : decode c.code g.pc = .ok (.baload, 1))
    (K : own_Ends p.tables e below P (T.setTop { g with pc := g.pc + 1, stack := v :: rest })) : own_Ends p.tables e below P (T.setTop g) := by
  obtain ⟨locs, X, e1, N⟩ := Y
  obtain ⟨cl, A, q, r⟩ := A
  exact own_st (fun t => X.baloadBytes hx (by rw [e1]; exact A.1) (State.isArrayOf_alike hZ.alike A.2.1) A.2.2 (own_in q hj hi hl) (own_get q hi hv) hg hs hd t) K
theorem own_ldC (Y : own_S p l e R s m args below meth c n0 T h k n) (hx : p.tables.exec = Jvm.exec) (hZ : Z.Warmed39 s.vm) {a : Addr} {vs : List Value} (A : own_A Z h a .char vs) {j : Int32} {i : Nat} (hj : ¬ j < 0) (hi : j.toNatClampNeg = i) (hl : i < vs.length) {v : Value} (hv : vs[i]? = some v) {g : JFrame} (hg : g.method = m) {rest : List Value} (hs : g.stack = .int j :: .ref a :: rest) (hd : decode c.code g.pc = .ok (.caload, 1))
    (K : own_Ends p.tables e below P (T.setTop { g with pc := g.pc + 1, stack := v :: rest })) : own_Ends p.tables e below P (T.setTop g) := by
  obtain ⟨locs, X, e1, N⟩ := Y
  obtain ⟨cl, A, q, r⟩ := A
  exact own_st (fun t => X.caload hx (by rw [e1]; exact A.1) (State.isArrayOf_alike hZ.alike A.2.1) A.2.2 (own_in q hj hi hl) (own_get q hi hv) hg hs hd t) K
theorem own_ldJ (Y : own_S p l e R s m args below meth c n0 T h k n) (hx : p.tables.exec = Jvm.exec) (hZ : Z.Warmed39 s.vm) {a : Addr} {vs : List Value} (A : own_A Z h a .long vs) {j : Int32} {i : Nat} (hj : ¬ j < 0) (hi : j.toNatClampNeg = i) (hl : i < vs.length) {v : Value} (hv : vs[i]? = some v) {g : JFrame} (hg : g.method = m) {rest : List Value} (hs : g.stack = .int j :: .ref a :: rest) (hd : decode c.code g.pc = .ok (.laload, 1))
    (K : own_Ends p.tables e below P (T.setTop { g with pc := g.pc + 1, stack := v :: rest })) : own_Ends p.tables e below P (T.setTop g) := by
  obtain ⟨locs, X, e1, N⟩ := Y
  obtain ⟨cl, A, q, r⟩ := A
  exact own_st (fun t => X.laload hx (by rw [e1]; exact A.1) (State.isArrayOf_alike hZ.alike A.2.1) A.2.2 (own_in q hj hi hl) (own_get q hi hv) hg hs hd t) K
/-! constants -/
theorem own_ldcI (Y : own_S p l e R s m args below meth c n0 T h k n) (hx : p.tables.exec = Jvm.exec) (hZ : Z.Warmed39 s.vm) {own : String} {index : Nat} {v : Int32} (hown : s.vm.findClass own = some m.cls) (w : (Jvm.Cond.constant own index v).before a0 Z = true) {g : JFrame} (hg : g.method = m) (hd : decode c.code g.pc = .ok (.ldc index, 2))
    (K : own_Ends p.tables e below P (T.setTop { g with pc := g.pc + 2, stack := .int v :: g.stack })) : own_Ends p.tables e below P (T.setTop g) := by
  obtain ⟨locs, X, e1, N⟩ := Y
  exact own_st (X.ldcInt hx hown (mvT hZ w) hg hd) K
theorem own_ldcJ (Y : own_S p l e R s m args below meth c n0 T h k n) (hx : p.tables.exec = Jvm.exec) (hZ : Z.Warmed39 s.vm) {own : String} {index : Nat} {v : Int64} (hown : s.vm.findClass own = some m.cls) (w : (Jvm.Cond.constantLong own index v).before a0 Z = true) {g : JFrame} (hg : g.method = m) (hd : decode c.code g.pc = .ok (.ldc2_w index, 3))
    (K : own_Ends p.tables e below P (T.setTop { g with pc := g.pc + 3, stack := .long v :: g.stack })) : own_Ends p.tables e below P (T.setTop g) := by
  obtain ⟨locs, X, e1, N⟩ := Y
  exact own_st (X.ldc2Long hx hown (mvT hZ w) hg hd) K
theorem own_irem (Y : own_S p l e R s m args below meth c n0 T h k n) (hx : p.tables.exec = Jvm.exec) {g : JFrame} (hg : g.method = m) {x y : Int32} {rest : List Value} (hd : decode c.code g.pc = .ok (.irem, 1)) (hs : g.stack = .int y :: .int x :: rest) (hy : y ≠ 0)
    (K : own_Ends p.tables e below P (T.setTop { g with pc := g.pc + 1, stack := .int (x % y) :: rest })) : own_Ends p.tables e below P (T.setTop g) := by
  obtain ⟨locs, X, e1, N⟩ := Y
  exact own_st (fun t => iremM X hx hg hd hs hy) K
/-! calls by contract -/
theorem own_callS (Y : own_S p l e R s m args below meth c n0 T h k n) (hx : p.tables.exec = Jvm.exec) (hZ : Z.Warmed39 s.vm) {own : String} {index : Nat} {y : MethodName} {bytes : ByteArray} {maxL : Nat} {ret : Option FieldType} (hown : s.vm.findClass own = some m.cls) (wl : (Jvm.Cond.methodLink own index y).before a0 Z = true) (wst : (Jvm.Cond.static y).before a0 Z = true) (wi : (Jvm.Cond.initialized y.cls).before a0 Z = true) (wc : (Jvm.Cond.code y bytes maxL ret).before a0 Z = true)
    (hy : y.cls ≠ "java/lang/invoke/MethodHandle" ∧ y.cls ≠ "java/lang/invoke/VarHandle") {rm : Room} {argsL rest : List Value} {Qf : Option Value → Heap → Prop} (hM : own_Con l Z y bytes maxL ret [] rm argsL.toArray h n0 Qf) {W : Nat} (hfr : rm.frames + 1 ≤ R.frames) (hlo : W + (maxL + 11) + rm.locals ≤ R.locals) (hc : k + rm.cells ≤ R.cells) (hsl : n + rm.slots ≤ R.slots)
    {g : JFrame} (hg : g.method = m) (hsize : g.locals.size = c.maxLocals) (hlen : ∀ sig, parseMethodDescriptor y.desc = some sig → argsL.length = sig.parameters.length) (hs : g.stack = argsL.reverse ++ rest) (hW : 2 * g.monitorRoom + (rest.map fun v => v.category).sum ≤ W) (hd : decode c.code g.pc = .ok (.invokestatic index, 3))
    (K : ∀ T' h' v, own_S p l e R s m args below meth c n0 T' h' (k + rm.cells) (n + rm.slots) → Qf v h' → own_Ends p.tables e below P (T'.setTop { g with pc := g.pc + 3, stack := v.toList ++ rest })) : own_Ends p.tables e below P (T.setTop g) := by
  obtain ⟨locs, X, e1, N⟩ := Y
  obtain ⟨v, vm1, ⟨T', L', k', n'⟩, -, X', ⟨L, hQ, l1, y1, z1⟩, st⟩ := Jvm.LawKit.callS X hx hown (mvT hZ wl) (mvT hZ wst) (mvT hZ wi) (mvT hZ wc) hy (backOf (W := W) (Q := fun v h L => Fr n0 L ∧ Qf v h) hM hZ wc wi hfr hlo) hg hsize hlen hs hW hd (fun _ _ => ⟨rfl, e1, hc, hsl⟩)
  dsimp only [Pt.U, Pt.locs, Pt.cells, Pt.slots] at X' l1 y1 z1 st hQ
  subst l1 y1 z1
  exact own_st st (K T' _ v ⟨_, X', rfl, Fr.app N hQ.1⟩ hQ.2)
theorem own_callN (Y : own_S p l e R s m args below meth c n0 T h k n) (hx : p.tables.exec = Jvm.exec) (hZ : Z.Warmed39 s.vm) {own : String} {index : Nat} {y : MethodName} {bytes : ByteArray} {maxL : Nat} (hy1 : y.name = "<init>") (hown : s.vm.findClass own = some m.cls) (wl : (Jvm.Cond.methodLink own index y).before a0 Z = true) (win : (Jvm.Cond.instanceMethod y).before a0 Z = true) (wi : (Jvm.Cond.initialized y.cls).before a0 Z = true) (wc : (Jvm.Cond.code y bytes maxL none).before a0 Z = true)
    (hy : y.cls ≠ "java/lang/invoke/MethodHandle" ∧ y.cls ≠ "java/lang/invoke/VarHandle") {rm : Room} {a : Addr} {argsL rest : List Value} {Qf : Option Value → Heap → Prop} (hM : own_Con l Z y bytes maxL none [] rm (.ref a :: argsL).toArray h n0 Qf) {W : Nat} (hfr : rm.frames + 1 ≤ R.frames) (hlo : W + (maxL + 11) + rm.locals ≤ R.locals) (hc : k + rm.cells ≤ R.cells) (hsl : n + rm.slots ≤ R.slots)
    {g : JFrame} (hg : g.method = m) (hsize : g.locals.size = c.maxLocals) (hlen : ∀ sig, parseMethodDescriptor y.desc = some sig → argsL.length = sig.parameters.length) (hs : g.stack = argsL.reverse ++ .ref a :: rest) (hW : 2 * g.monitorRoom + (rest.map fun v => v.category).sum ≤ W) (hd : decode c.code g.pc = .ok (.invokespecial index, 3))
    (K : ∀ T' h' v, own_S p l e R s m args below meth c n0 T' h' (k + rm.cells) (n + rm.slots) → Qf v h' → own_Ends p.tables e below P (T'.setTop { g with pc := g.pc + 3, stack := v.toList ++ rest })) : own_Ends p.tables e below P (T.setTop g) := by
  obtain ⟨locs, X, e1, N⟩ := Y
  obtain ⟨v, vm1, ⟨T', L', k', n'⟩, -, X', ⟨L, hQ, l1, y1, z1⟩, st⟩ := X.specialBack hx hy1 hown (mvT hZ wl) (mvT hZ win) (mvT hZ wc) hy (backOf (W := W) (Q := fun v h L => Fr n0 L ∧ Qf v h) hM hZ wc wi hfr hlo) hg hsize (Steps.refl _) hlen hs hW hd (fun _ _ => ⟨rfl, e1, hc, hsl⟩)
  dsimp only [Pt.U, Pt.locs, Pt.cells, Pt.slots] at X' l1 y1 z1 st hQ
  subst l1 y1 z1
  exact own_st (fun t q => st.trans q) (K T' _ v ⟨_, X', rfl, Fr.app N hQ.1⟩ hQ.2)
theorem own_callV (Y : own_S p l e R s m args below meth c n0 T h k n) (hx : p.tables.exec = Jvm.exec) (hZ : Z.Warmed39 s.vm) {own C : String} {index : Nat} {y z : MethodName} {bytes : ByteArray} {maxL : Nat} {ret : Option FieldType} (hown : s.vm.findClass own = some m.cls) (wl : (Jvm.Cond.methodLink own index y).before a0 Z = true) (wd : (Jvm.Cond.declares y).before a0 Z = true) (hnf : NotFace s y) (wse : (Jvm.Cond.selects C y z).before a0 Z = true) (win : (Jvm.Cond.instanceMethod z).before a0 Z = true) (wi : (Jvm.Cond.initialized z.cls).before a0 Z = true) (wc : (Jvm.Cond.code z bytes maxL ret).before a0 Z = true)
    (hy : y.cls ≠ "java/lang/invoke/MethodHandle" ∧ y.cls ≠ "java/lang/invoke/VarHandle") {rm : Room} {a : Addr} (E : Exa Z h a C) {argsL rest : List Value} {Qf : Option Value → Heap → Prop} (hM : own_Con l Z z bytes maxL ret [] rm (.ref a :: argsL).toArray h n0 Qf) {W : Nat} (hfr : rm.frames + 1 ≤ R.frames) (hlo : W + (maxL + 11) + rm.locals ≤ R.locals) (hc : k + rm.cells ≤ R.cells) (hsl : n + rm.slots ≤ R.slots)
    {g : JFrame} (hg : g.method = m) (hsize : g.locals.size = c.maxLocals) (hlen : ∀ sig, parseMethodDescriptor y.desc = some sig → argsL.length = sig.parameters.length) (hs : g.stack = argsL.reverse ++ .ref a :: rest) (hW : 2 * g.monitorRoom + (rest.map fun v => v.category).sum ≤ W) (hd : decode c.code g.pc = .ok (.invokevirtual index, 3))
    (K : ∀ T' h' v, own_S p l e R s m args below meth c n0 T' h' (k + rm.cells) (n + rm.slots) → Qf v h' → own_Ends p.tables e below P (T'.setTop { g with pc := g.pc + 3, stack := v.toList ++ rest })) : own_Ends p.tables e below P (T.setTop g) := by
  obtain ⟨locs, X, e1, N⟩ := Y
  obtain ⟨cq, kq, qa, qb, qc⟩ := isOf hZ e1 E
  obtain ⟨v, vm1, ⟨T', L', k', n'⟩, -, X', ⟨L, hQ, l1, y1, z1⟩, st⟩ := X.virtualBack hx hown (mvT hZ wl) (mvT hZ wd) hnf (mvT hZ wse) (mvT hZ win) hy (backOf (W := W) (Q := fun v h L => Fr n0 L ∧ Qf v h) hM hZ wc wi hfr hlo) qa qc hg hsize (Steps.refl _) hlen hs hW hd (fun _ _ => ⟨rfl, e1, hc, hsl⟩)
  dsimp only [Pt.U, Pt.locs, Pt.cells, Pt.slots] at X' l1 y1 z1 st hQ
  subst l1 y1 z1
  exact own_st (fun t q => st.trans q) (K T' _ v ⟨_, X', rfl, Fr.app N hQ.1⟩ hQ.2)
theorem own_callU (Y : own_S p l e R s m args below meth c n0 T h k n) (hx : p.tables.exec = Jvm.exec) (hZ : Z.Warmed39 s.vm) {own C owner : String} {index : Nat} {y z : MethodName} {bytes : ByteArray} {maxL : Nat} {ret : Option FieldType} (hown : s.vm.findClass own = some m.cls) (wl : (Jvm.Cond.methodLink own index y).before a0 Z = true) (wsm : (Jvm.Cond.sameMethod y.cls owner y.name y.desc).before a0 Z = true) (wd : (Jvm.Cond.declares ⟨owner, y.name, y.desc⟩).before a0 Z = true) (wse : (Jvm.Cond.selects C y z).before a0 Z = true) (win : (Jvm.Cond.instanceMethod z).before a0 Z = true) (wi : (Jvm.Cond.initialized z.cls).before a0 Z = true) (wc : (Jvm.Cond.code z bytes maxL ret).before a0 Z = true)
    (hy : owner ≠ "java/lang/invoke/MethodHandle" ∧ owner ≠ "java/lang/invoke/VarHandle") {rm : Room} {a : Addr} (E : Exa Z h a C) {argsL rest : List Value} {Qf : Option Value → Heap → Prop} (hM : own_Con l Z z bytes maxL ret [] rm (.ref a :: argsL).toArray h n0 Qf) {W : Nat} (hfr : rm.frames + 1 ≤ R.frames) (hlo : W + (maxL + 11) + rm.locals ≤ R.locals) (hc : k + rm.cells ≤ R.cells) (hsl : n + rm.slots ≤ R.slots)
    {g : JFrame} (hg : g.method = m) (hsize : g.locals.size = c.maxLocals) (hlen : ∀ sig, parseMethodDescriptor y.desc = some sig → argsL.length = sig.parameters.length) (hs : g.stack = argsL.reverse ++ .ref a :: rest) (hW : 2 * g.monitorRoom + (rest.map fun v => v.category).sum ≤ W) (hd : decode c.code g.pc = .ok (.invokevirtual index, 3))
    (K : ∀ T' h' v, own_S p l e R s m args below meth c n0 T' h' (k + rm.cells) (n + rm.slots) → Qf v h' → own_Ends p.tables e below P (T'.setTop { g with pc := g.pc + 3, stack := v.toList ++ rest })) : own_Ends p.tables e below P (T.setTop g) := by
  obtain ⟨locs, X, e1, N⟩ := Y
  obtain ⟨cq, kq, qa, qb, qc⟩ := isOf hZ e1 E
  obtain ⟨v, vm1, ⟨T', L', k', n'⟩, -, X', ⟨L, hQ, l1, y1, z1⟩, st⟩ := X.virtualBackUp hx hown (mvT hZ wl) (mvT hZ wsm) (mvT hZ wd) hy (mvT hZ wse) (mvT hZ win) (backOf (W := W) (Q := fun v h L => Fr n0 L ∧ Qf v h) hM hZ wc wi hfr hlo) qa qc hg hsize (Steps.refl _) hlen hs hW hd (fun _ _ => ⟨rfl, e1, hc, hsl⟩)
  dsimp only [Pt.U, Pt.locs, Pt.cells, Pt.slots] at X' l1 y1 z1 st hQ
  subst l1 y1 z1
  exact own_st (fun t q => st.trans q) (K T' _ v ⟨_, X', rfl, Fr.app N hQ.1⟩ hQ.2)
theorem own_callP (Y : own_S p l e R s m args below meth c n0 T h k n) (hx : p.tables.exec = Jvm.exec) (hZ : Z.Warmed39 s.vm) {own C : String} {index : Nat} {y : MethodName} {bytes : ByteArray} {maxL : Nat} {ret : Option FieldType} (hown : s.vm.findClass own = some m.cls) (wl : (Jvm.Cond.methodLink own index y).before a0 Z = true) {nn : Nat} (win : (Jvm.Cond.instanceMethod y).before a0 Z = true) (wn : (Jvm.Cond.instantiable y.cls nn).before a0 Z = true) (wp : (Jvm.Cond.privateMethod y).before a0 Z = true) (wi : (Jvm.Cond.initialized y.cls).before a0 Z = true) (wc : (Jvm.Cond.code y bytes maxL ret).before a0 Z = true)
    (hy : y.cls ≠ "java/lang/invoke/MethodHandle" ∧ y.cls ≠ "java/lang/invoke/VarHandle") {rm : Room} {a : Addr} (E : Exa Z h a C) {argsL rest : List Value} {Qf : Option Value → Heap → Prop} (hM : own_Con l Z y bytes maxL ret [] rm (.ref a :: argsL).toArray h n0 Qf) {W : Nat} (hfr : rm.frames + 1 ≤ R.frames) (hlo : W + (maxL + 11) + rm.locals ≤ R.locals) (hc : k + rm.cells ≤ R.cells) (hsl : n + rm.slots ≤ R.slots)
    {g : JFrame} (hg : g.method = m) (hsize : g.locals.size = c.maxLocals) (hlen : ∀ sig, parseMethodDescriptor y.desc = some sig → argsL.length = sig.parameters.length) (hs : g.stack = argsL.reverse ++ .ref a :: rest) (hW : 2 * g.monitorRoom + (rest.map fun v => v.category).sum ≤ W) (hd : decode c.code g.pc = .ok (.invokevirtual index, 3))
    (K : ∀ T' h' v, own_S p l e R s m args below meth c n0 T' h' (k + rm.cells) (n + rm.slots) → Qf v h' → own_Ends p.tables e below P (T'.setTop { g with pc := g.pc + 3, stack := v.toList ++ rest })) : own_Ends p.tables e below P (T.setTop g) := by
  obtain ⟨locs, X, e1, N⟩ := Y
  obtain ⟨cell, q, q'⟩ := E.cell
  have wn' : (Jvm.Cond.instantiable y.cls nn).before #[] s = true := mvT hZ wn
  obtain ⟨ci, ki, hi1, hi2, -, hi4, -⟩ := Cond.instantiable_spec wn'
  have wse : (Jvm.Cond.selects y.cls y y).before args s = true := selects_self_of_private hi1 hi2 (by simpa using (Bool.or_eq_false_iff.mp hi4).1) (Cond.privateMethod_at (mvP hZ wp (args := #[]))) (mvT hZ win) hy
  obtain ⟨v, vm1, ⟨T', L', k', n'⟩, -, X', ⟨L, hQ, l1, y1, z1⟩, st⟩ := X.privateBack hx hown (mvT hZ wl) (mvT hZ win) wse (Cond.privateMethod_at (mvP hZ wp (args := #[]))) (mvT hZ wc) hy (backOf (W := W) (Q := fun v h L => Fr n0 L ∧ Qf v h) hM hZ wc wi hfr hlo) hg hsize (Steps.refl _) (by rw [e1]; exact q) q' hlen hs hW hd (fun _ _ => ⟨rfl, e1, hc, hsl⟩)
  dsimp only [Pt.U, Pt.locs, Pt.cells, Pt.slots] at X' l1 y1 z1 st hQ
  subst l1 y1 z1
  exact own_st (fun t q => st.trans q) (K T' _ v ⟨_, X', rfl, Fr.app N hQ.1⟩ hQ.2)
end OwnLayer
section OwnNums
def own_b (b : Bool) : Int32 := if b then 1 else 0
theorem own_b_t {b : Bool} (h : b = true) : own_b b = 1 := by subst h; rfl
theorem own_b_f {b : Bool} (h : b = false) : own_b b = 0 := by subst h; rfl
theorem own_b_0 (b : Bool) : own_b b = 0 ↔ b = false := by cases b <;> simp [own_b]
theorem own_b_n (b : Bool) : nar .boolean (own_b b) = own_b b := by cases b <;> rfl
theorem own_b_inj {a b : Bool} : own_b a = own_b b ↔ a = b := by cases a <;> cases b <;> simp [own_b]
theorem own_idx {j : Int32} {n : Nat} (h0 : 0 ≤ j.toInt) (h1 : j.toInt < (n : Int)) : ¬ j < 0 ∧ j.toNatClampNeg < n := by
  refine ⟨?_, ?_⟩
  · rw [Int32.lt_iff_toInt_lt]; show ¬ j.toInt < 0; omega
  · show j.toInt.toNat < n; omega
theorem own_ints {xs : List Int32} {i : Nat} (h : i < xs.length) : ∃ d, (xs.map Value.int)[i]? = some (.int d) ∧ d = xs[i] := ⟨xs[i], by simp [h], rfl⟩
theorem own_longs {xs : List Int64} {i : Nat} (h : i < xs.length) : ∃ d, (xs.map Value.long)[i]? = some (.long d) ∧ d = xs[i] := ⟨xs[i], by simp [h], rfl⟩
/-- p i, p (i + 1), .., k of them, all hold -/
def own_all (p : Nat → Bool) : Nat → Nat → Bool
  | _, 0 => true
  | i, k + 1 => p i && own_all p (i + 1) k
def own_g (xs : List Int32) (i : Nat) : Int32 := xs.getD i 0
theorem own_mget {xs : List Int32} {i : Nat} (h : i < (xs.map Value.int).length) : (xs.map Value.int)[i]? = some (.int (own_g xs i)) := by
  have h' : i < xs.length := by simpa using h
  simp [h', own_g]
theorem own_mlen {xs : List Int32} {i : Nat} (h : i < xs.length) : i < (xs.map Value.int).length := by simpa using h
theorem own_nat {j : Int32} {i : Nat} (h : j.toInt = (i : Int)) : ¬ j < 0 ∧ j.toNatClampNeg = i := by
  refine ⟨?_, ?_⟩
  · rw [Int32.lt_iff_toInt_lt]; show ¬ j.toInt < 0; omega
  · show j.toInt.toNat = i; omega
theorem own_inc {j : Int32} {i : Nat} (h : j.toInt = (i : Int)) (hi : i + 1 < 2147483648) : (j + 1).toInt = ((i + 1 : Nat) : Int) := by
  have := c_iadd j 1
  have h1 : (1 : Int32).toInt = 1 := rfl
  have := rng32 (j + 1)
  omega
theorem own_lt {x y : Int32} : x < y ↔ x.toInt < y.toInt := Int32.lt_iff_toInt_lt
theorem own_eq {x y : Int32} : x = y ↔ x.toInt = y.toInt := Int32.toInt_inj.symm
theorem own_tolen {ys : List Int32} {z : Int32} (h : z.toInt = (ys.length : Int)) : (ys.map Value.int).length.toInt32 = z := by
  have q := rng32 z
  have e : (ys.map Value.int).length = ys.length := by simp
  rw [own_eq, len_toInt (by rw [e]; omega), e, h]
theorem own_add {x y : Int32} {a b : Nat} (h1 : x.toInt = (a : Int)) (h2 : y.toInt = (b : Int)) (hi : a + b < 2147483648) : (x + y).toInt = ((a + b : Nat) : Int) := by
  have := c_iadd x y
  have := rng32 (x + y)
  omega
theorem own_sub {x y : Int32} {a b : Nat} (h1 : x.toInt = (a : Int)) (h2 : y.toInt = (b : Int)) : (x - y).toInt = (a : Int) - (b : Int) := by
  have := c_isub x y
  have := rng32 (x - y)
  have := rng32 x
  have := rng32 y
  omega
theorem own_l0 : (0 : Int32).toInt = ((0 : Nat) : Int) := rfl
theorem own_l1 : (1 : Int32).toInt = ((1 : Nat) : Int) := rfl
theorem own_l2 : (2 : Int32).toInt = ((2 : Nat) : Int) := rfl
theorem own_l3 : (3 : Int32).toInt = ((3 : Nat) : Int) := rfl
theorem own_l4 : (4 : Int32).toInt = ((4 : Nat) : Int) := rfl
theorem own_l5 : (5 : Int32).toInt = ((5 : Nat) : Int) := rfl
theorem own_l6 : (6 : Int32).toInt = ((6 : Nat) : Int) := rfl
theorem own_l7 : (7 : Int32).toInt = ((7 : Nat) : Int) := rfl
theorem own_l8 : (8 : Int32).toInt = ((8 : Nat) : Int) := rfl
end OwnNums
section OwnNest
variable {p : Program} {l : Launch} {e : Env} {R : Room} {s : State} {m : MethodId} {args : Array Value} {below : List Frame} {meth : Method} {c : Code} {n0 : Nat} {T : State} {h : Heap} {k n : Nat} {Z : State} {a0 : Array Value} {P : Outcome → State → Prop}
theorem own_newRA (Y : own_S p l e R s m args below meth c n0 T h k n) (hx : p.tables.exec = Jvm.exec) (hZ : Z.Warmed39 s.vm) {own C : String} {ty : FieldType} {index : Nat} (hown : s.vm.findClass own = some m.cls) (hC : (FieldType.array ty).toString = C) (w1 : (Jvm.Cond.classLink own index C).before a0 Z = true) (w2 : (Jvm.Cond.arrayOver (.array ty)).before a0 Z = true) {g : JFrame} (hg : g.method = m) (hd : decode c.code g.pc = .ok (.anewarray index, 3)) {z : Int32} {rest : List Value} (hs : g.stack = .int z :: rest)
    (hz : ¬ z < 0) {nz cap : Nat} (hn : z.toNatClampNeg = nz) (hcap : nz ≤ cap) (hb : cap * 8 ≤ 536870912) (hc : k + 1 ≤ R.cells) (hl : n + cap ≤ R.slots)
    (K : ∀ T' h' b, b = h.size → own_S p l e R s m args below meth c n0 T' h' (k + 1) (n + cap) → Ext h h' → own_A Z h' b (.array ty) (List.replicate nz .null) → own_Ends p.tables e below P (T'.setTop { g with pc := g.pc + 3, stack := .ref b :: rest })) : own_Ends p.tables e below P (T.setTop g) := by
  obtain ⟨locs, X, e1, N⟩ := Y
  obtain ⟨T', h', cA, X', e', E, A, -, O, st⟩ := newRA X hx hZ hown hC w1 w2 e1 hg hd hs hz (cap := cap) (by rw [hn]; exact hcap) hb hc hl rfl
  refine own_st st (K T' h' _ rfl ⟨locs, X', e', N⟩ E ⟨_, A, ?_, ?_⟩)
  · simp [newA, hn, defaultValue]
  · simp; omega
/-- invokespecial of a constructor whose pool entry HAS BEEN RESOLVED (the sheet's methodRef) -/
theorem own_callNR (Y : own_S p l e R s m args below meth c n0 T h k n) (hx : p.tables.exec = Jvm.exec) (hZ : Z.Warmed39 s.vm) {own : String} {index : Nat} {y : MethodName} {bytes : ByteArray} {maxL : Nat} (hy1 : y.name = "<init>") (hown : s.vm.findClass own = some m.cls) (wl : (Jvm.Cond.methodRef own index y).before a0 Z = true) (win : (Jvm.Cond.instanceMethod y).before a0 Z = true) (wi : (Jvm.Cond.initialized y.cls).before a0 Z = true) (wc : (Jvm.Cond.code y bytes maxL none).before a0 Z = true)
    (hy : y.cls ≠ "java/lang/invoke/MethodHandle" ∧ y.cls ≠ "java/lang/invoke/VarHandle") {rm : Room} {a : Addr} {argsL rest : List Value} {Qf : Option Value → Heap → Prop} (hM : own_Con l Z y bytes maxL none [] rm (.ref a :: argsL).toArray h n0 Qf) {W : Nat} (hfr : rm.frames + 1 ≤ R.frames) (hlo : W + (maxL + 11) + rm.locals ≤ R.locals) (hc : k + rm.cells ≤ R.cells) (hsl : n + rm.slots ≤ R.slots)
    {g : JFrame} (hg : g.method = m) (hsize : g.locals.size = c.maxLocals) (hlen : ∀ sig, parseMethodDescriptor y.desc = some sig → argsL.length = sig.parameters.length) (hs : g.stack = argsL.reverse ++ .ref a :: rest) (hW : 2 * g.monitorRoom + (rest.map fun v => v.category).sum ≤ W) (hd : decode c.code g.pc = .ok (.invokespecial index, 3))
    (K : ∀ T' h' v, own_S p l e R s m args below meth c n0 T' h' (k + rm.cells) (n + rm.slots) → Qf v h' → own_Ends p.tables e below P (T'.setTop { g with pc := g.pc + 3, stack := v.toList ++ rest })) : own_Ends p.tables e below P (T.setTop g) := by
  obtain ⟨locs, X, e1, N⟩ := Y
  subst hg
  have hZT : Z.Warmed39 T.vm := wtrans hZ X.warmed
  -- the names at Z
  obtain ⟨obj, methO, hnO, hmO, hstO, habO⟩ := Cond.instanceMethod_spec (show (Jvm.Cond.instanceMethod y).before args s = true from mvT hZ win)
  obtain ⟨methO', cO, hmO', hcO, hbO, hlO, -, hlockO, -, hsigO⟩ := Cond.code_spec hnO (show (Jvm.Cond.code y bytes maxL none).before args s = true from mvT hZ wc)
  cases hmO.symm.trans hmO'
  obtain ⟨kO, hkO, hnameO⟩ := className_of_methodNamed hnO
  obtain ⟨hnameMO, hdescO⟩ := name_of_methodNamed hnO hmO
  obtain ⟨objZ, methZ, hnZ, hmZ, -, -⟩ := Cond.instanceMethod_spec win
  have wT : (Jvm.Cond.methodRef own index y).before a0 (Z.setVm T.vm) = true := Cond.methodRef_warmed39 hZT hnZ hy wl
  have hal := X.warmed.alike
  have hownT : (Z.setVm T.vm).vm.findClass own = some g.method.cls := by show T.vm.findClass own = _; rw [hal.findClass]; exact hown
  obtain ⟨mf, c', hf1, hready, hf2, hnames⟩ := Cond.methodRef_named e hownT wT
  have hmf : mf = obj := by
    have q1 : (Z.setVm T.vm).methodNamed? y = some obj := by
      have q2 : (s.setVm T.vm).methodNamed? y = some obj := by rw [State.methodNamed?_setVm hal]; exact hnO
      exact q2
    exact Option.some.inj (hf1.symm.trans (State.methodFound?_of_named q1 hy))
  subst hmf
  obtain ⟨kO2, hkO2, heO2⟩ := hal.2.2 _ _ hkO
  have hmO2 : T.vm.method? mf = some methO := by rw [hal.method?]; exact hmO
  have hfound : lookupSpecial T.vm mf.cls "<init>" methO.desc = .method mf := by
    rw [hal.lookupSpecial, hdescO, ← hy1]; exact lookupSpecial_of_named hnO hmO hstO
  have hcc : c' = mf.cls := by
    have q : T.vm.findClass y.cls = some mf.cls := by rw [hal.findClass]; exact findClass_of_methodNamed hnO
    exact Option.some.inj (hf2.symm.trans q)
  subst hcc
  have hstep : ∀ target, (∀ acts, Steps p.tables e below (doInvoke e (T.setTop { g with stack := rest }) acts mf (.ref a :: argsL).toArray).1 target) → Steps p.tables e below (T.setTop g) target := by
    intro target hrest
    jvm_step X.here [hx, hd, invokespecial.wp_init (e := e) (s := T) (k := kO2) (meth := methO) (m := mf) (a := a) (args := argsL) (rest := rest) (f := g) X.here.top hnames hready hkO2 hmO2 (by rw [hnameMO]; exact hy1) hstO habO hfound (hlen _ hsigO) hs]
    exact hrest
  obtain ⟨v, ⟨T', L', k', n'⟩, X', ⟨L, hQ, l1, y1, z1⟩, hsteps⟩ := (backOf (W := W) (Q := fun v h L => Fr n0 L ∧ Qf v h) hM hZ wc wi hfr hlo) g.method meth c ⟨T, locs, k, n⟩ { g with stack := rest } (.invokespecial index) mf (.ref a :: argsL).toArray X rfl hsize hd hW (X.named hnO) ⟨rfl, e1, hc, hsl⟩
  dsimp only [Pt.U, Pt.locs, Pt.cells, Pt.slots] at X' l1 y1 z1 hsteps hQ
  subst l1 y1 z1
  exact own_st (fun t q => hstep t fun acts => by rw [doInvoke_state]; exact hsteps.trans q) (K T' _ v ⟨_, X', rfl, Fr.app N hQ.1⟩ hQ.2)
end OwnNest
theorem own_byte {u : Int32} (h : -128 ≤ u.toInt ∧ u.toInt ≤ 127) : u.toInt8.toInt32 = u := by
  have q := c_i2b u
  rw [own_eq]; omega
theorem own_u8 (u : Int32) : (u &&& 255).toInt = u.toInt % 256 := c_mask u 255 8 (by decide) (by decide)
theorem own_pn0 : plainName "com/example/deft_wiring/deftwiring/context/XmlScanner$Names" = true := by first | (simp [plainName, overriddenIn]; done) | decide +kernel
theorem own_d2_0 : decode prog_77_method_1_code 0 = .ok (.aload_n 0, 1) := by decide +kernel
theorem own_d2_1 : decode prog_77_method_1_code 1 = .ok (.invokespecial 3, 3) := by decide +kernel
theorem own_d2_4 : decode prog_77_method_1_code 4 = .ok (.aload_n 0, 1) := by decide +kernel
theorem own_d2_5 : decode prog_77_method_1_code 5 = .ok (.sipush 512, 3) := by decide +kernel
theorem own_d2_8 : decode prog_77_method_1_code 8 = .ok (.anewarray 9, 3) := by decide +kernel
theorem own_d2_11 : decode prog_77_method_1_code 11 = .ok (.putfield 11, 3) := by decide +kernel
theorem own_d2_14 : decode prog_77_method_1_code 14 = .ok (.aload_n 0, 1) := by decide +kernel
theorem own_d2_15 : decode prog_77_method_1_code 15 = .ok (.sipush 512, 3) := by decide +kernel
theorem own_d2_18 : decode prog_77_method_1_code 18 = .ok (.anewarray 17, 3) := by decide +kernel
theorem own_d2_21 : decode prog_77_method_1_code 21 = .ok (.putfield 19, 3) := by decide +kernel
theorem own_d2_24 : decode prog_77_method_1_code 24 = .ok (.return_, 1) := by decide +kernel
theorem own_ef_own_rm2 (m : MethodId) (r0 : Addr) : entryFrame m #[(.ref r0)] 1 = mkF m 0 #[.val (.ref r0)] [] := by first | (simp [entryFrame, mkF, argsToLocals, Value.category]; done) | rfl
def own_Q_own_rm2 (Z : State) (r0 : Addr) (h0 : Heap) (n0 : Nat) (v : Option Value) (h : Heap) : Prop := v = none ∧ Keep h0 h [r0]
set_option maxRecDepth 65536 in
set_option maxHeartbeats 40000000 in
theorem own_rm2 (l : Launch) (Z : State) (a0 : Array Value) (hw : ∀ d ∈ tables_1, d.before a0 Z = true) (ws : List Jvm.Cond) (r0 : Addr)  (h0 : Heap) (n0 : Nat) (Z0 : n0 ≤ h0.size) (E : Exa Z h0 r0 "com/example/deft_wiring/deftwiring/context/XmlScanner$Names") (Fstrings : Fld Z h0 r0 "com/example/deft_wiring/deftwiring/context/XmlScanner$Names" "strings" "[Ljava/lang/String;" .null) (Fbytes : Fld Z h0 r0 "com/example/deft_wiring/deftwiring/context/XmlScanner$Names" "bytes" "[[B" .null) (g : n0 ≤ r0) :
    own_Con l Z (⟨"com/example/deft_wiring/deftwiring/context/XmlScanner$Names", "<init>", "()V"⟩ : MethodName) prog_77_method_1_code 1 none ws ({ frames := 1, cells := 2, slots := 1024, locals := 12 } : Room) #[(.ref r0)] h0 n0 (own_Q_own_rm2 Z r0 h0 n0) := by
  refine own_body (plainFor_of_name own_pn0) ?_
  intro p e s m below meth c T0 hx hZ hby hml hown hnm hret hlk Y0
  replace hown : s.vm.findClass "com/example/deft_wiring/deftwiring/context/XmlScanner$Names" = some m.cls := hown
  replace hnm : meth.name = "<init>" := hnm
  rw [own_ef_own_rm2 m r0]
  show own_Ends _ _ _ _ (T0.setTop (mkF m 0 #[.val (.ref r0)] []))
  refine own_st (fun t_ => XS.aloadN (own_here Y0) hx rfl (hb hby own_d2_0) rfl rfl) ?_
  show own_Ends _ _ _ _ (T0.setTop (mkF m 1 #[.val (.ref r0)] [(.ref r0)]))
  refine own_initO Y0 hx hZ hown (hw _ (List.mem_of_getElem? (i := 14) rfl)) (hw _ (List.mem_of_getElem? (i := 15) rfl)) (hw _ (List.mem_of_getElem? (i := 16) rfl)) rfl (by rw [hml]; rfl) rfl (hb hby own_d2_1) (by decide) (W := 0) (by show 2 * 0 + _ ≤ _; exact Nat.le_of_eq rfl) (by decide) (fun T1 Y2 => ?_)
  show own_Ends _ _ _ _ (T1.setTop (mkF m 4 #[.val (.ref r0)] []))
  refine own_st (fun t_ => XS.aloadN (own_here Y2) hx rfl (hb hby own_d2_4) rfl rfl) ?_
  show own_Ends _ _ _ _ (T1.setTop (mkF m 5 #[.val (.ref r0)] [(.ref r0)]))
  refine own_st (fun t_ => XS.sipush (own_here Y2) hx rfl (hb hby own_d2_5) ) ?_
  show own_Ends _ _ _ _ (T1.setTop (mkF m 8 #[.val (.ref r0)] [(.int (512 : Int32)), (.ref r0)]))
  refine own_newR Y2 hx hZ hown (hw _ (List.mem_of_getElem? (i := 17) rfl)) (hw _ (List.mem_of_getElem? (i := 18) rfl)) rfl (hb hby own_d2_8) rfl (by decide) (nz := 512) (cap := 512) (by decide) (by decide) (by decide) (by decide) (by decide) (fun T3 h5 b8 eb9 Y4 E6 A7 => ?_)
  have ne10 : r0 ≠ b8 := Nat.ne_of_lt (by rw [eb9]; exact E.lt)
  have g11 : n0 ≤ b8 := by rw [eb9]; exact Z0
  show own_Ends _ _ _ _ (T3.setTop (mkF m 11 #[.val (.ref r0)] [(.ref b8), (.ref r0)]))
  have f12 : Exa Z h5 r0 "com/example/deft_wiring/deftwiring/context/XmlScanner$Names" := E.ext E6
  have f13 : Fld Z h5 r0 "com/example/deft_wiring/deftwiring/context/XmlScanner$Names" "strings" "[Ljava/lang/String;" .null := Fstrings.ext E6
  refine own_putF Y4 hx hZ hown (host := "") (Or.inl (hw _ (List.mem_of_getElem? (i := 19) rfl))) Via.refl f13 f12 (Or.inr ⟨(hw _ (List.mem_of_getElem? (i := 20) rfl)), rfl, hnm⟩) (hw _ (List.mem_of_getElem? (i := 9) rfl)) g (ty := (.array (.object "java/lang/String"))) (by decide) rfl rfl rfl rfl (hb hby own_d2_11) (fun T14 h16 Y15 W17 F18 => ?_)
  show own_Ends _ _ _ _ (T14.setTop (mkF m 14 #[.val (.ref r0)] []))
  refine own_st (fun t_ => XS.aloadN (own_here Y15) hx rfl (hb hby own_d2_14) rfl rfl) ?_
  show own_Ends _ _ _ _ (T14.setTop (mkF m 15 #[.val (.ref r0)] [(.ref r0)]))
  refine own_st (fun t_ => XS.sipush (own_here Y15) hx rfl (hb hby own_d2_15) ) ?_
  show own_Ends _ _ _ _ (T14.setTop (mkF m 18 #[.val (.ref r0)] [(.int (512 : Int32)), (.ref r0)]))
  refine own_newRA Y15 hx hZ (ty := .byte) hown rfl (hw _ (List.mem_of_getElem? (i := 21) rfl)) (hw _ (List.mem_of_getElem? (i := 22) rfl)) rfl (hb hby own_d2_18) rfl (by decide) (nz := 512) (cap := 512) (by decide) (by decide) (by decide) (by decide) (by decide) (fun T19 h21 b24 eb25 Y20 E22 A23 => ?_)
  have f26 : Exa Z h16 r0 "com/example/deft_wiring/deftwiring/context/XmlScanner$Names" := f12.wr W17
  have ne27 : r0 ≠ b24 := Nat.ne_of_lt (by rw [eb25]; exact f26.lt)
  have f28 : own_A Z h16 b8 (.object "java/lang/String") (List.replicate 512 .null) := A7.other W17 (Ne.symm ne10)
  have ne29 : b8 ≠ b24 := Nat.ne_of_lt (by rw [eb25]; exact f28.lt)
  have z31 : n0 ≤ h5.size := Nat.le_trans Z0 E6.1
  have z32 : n0 ≤ h16.size := Nat.le_trans z31 (Nat.le_of_eq W17.size.symm)
  have g30 : n0 ≤ b24 := by rw [eb25]; exact z32
  show own_Ends _ _ _ _ (T19.setTop (mkF m 21 #[.val (.ref r0)] [(.ref b24), (.ref r0)]))
  have f33 : Exa Z h21 r0 "com/example/deft_wiring/deftwiring/context/XmlScanner$Names" := f26.ext E22
  have f34 : Fld Z h5 r0 "com/example/deft_wiring/deftwiring/context/XmlScanner$Names" "bytes" "[[B" .null := Fbytes.ext E6
  have f35 : Fld Z h16 r0 "com/example/deft_wiring/deftwiring/context/XmlScanner$Names" "bytes" "[[B" .null := f34.other W17 (Or.inr (slot_ne (Or.inr (hw _ (List.mem_of_getElem? (i := 24) rfl))) (Or.inr (hw _ (List.mem_of_getElem? (i := 20) rfl))) (by decide) (t := (.array (.array .byte))) (t' := (.array (.object "java/lang/String"))) (by decide) (by decide)))
  have f36 : Fld Z h21 r0 "com/example/deft_wiring/deftwiring/context/XmlScanner$Names" "bytes" "[[B" .null := f35.ext E22
  refine own_putF Y20 hx hZ hown (host := "") (Or.inl (hw _ (List.mem_of_getElem? (i := 23) rfl))) Via.refl f36 f33 (Or.inr ⟨(hw _ (List.mem_of_getElem? (i := 24) rfl)), rfl, hnm⟩) (hw _ (List.mem_of_getElem? (i := 9) rfl)) g (ty := (.array (.array .byte))) (by decide) rfl rfl rfl rfl (hb hby own_d2_21) (fun T37 h39 Y38 W40 F41 => ?_)
  show own_Ends _ _ _ _ (T37.setTop (mkF m 24 #[.val (.ref r0)] []))
  have K42 : Keep h0 h5 [r0] := (Keep.refl h0 [r0]).ext E6
  have K43 : Keep h0 h16 [r0] := K42.wr W17 (Or.inl (List.mem_of_getElem? (i := 0) rfl))
  have K44 : Keep h0 h21 [r0] := K43.ext E22
  have K45 : Keep h0 h39 [r0] := K44.wr W40 (Or.inl (List.mem_of_getElem? (i := 0) rfl))
  refine own_retV Y38 hx hlk hret (hb hby own_d2_24) (by decide) (by decide) ?_
  exact ⟨rfl, K45⟩
theorem own_pn1 : plainName "com/example/deft_wiring/deftwiring/context/XmlScanner" = true := by first | (simp [plainName, overriddenIn]; done) | decide +kernel
theorem own_d4_0 : decode prog_76_method_2_code 0 = .ok (.aload_n 0, 1) := by decide +kernel
theorem own_d4_1 : decode prog_76_method_2_code 1 = .ok (.invokespecial 12, 3) := by decide +kernel
theorem own_d4_4 : decode prog_76_method_2_code 4 = .ok (.aload_n 0, 1) := by decide +kernel
theorem own_d4_5 : decode prog_76_method_2_code 5 = .ok (.aload_n 1, 1) := by decide +kernel
theorem own_d4_6 : decode prog_76_method_2_code 6 = .ok (.putfield 15, 3) := by decide +kernel
theorem own_d4_9 : decode prog_76_method_2_code 9 = .ok (.aload_n 0, 1) := by decide +kernel
theorem own_d4_10 : decode prog_76_method_2_code 10 = .ok (.aload_n 1, 1) := by decide +kernel
theorem own_d4_11 : decode prog_76_method_2_code 11 = .ok (.arraylength, 1) := by decide +kernel
theorem own_d4_12 : decode prog_76_method_2_code 12 = .ok (.putfield 19, 3) := by decide +kernel
theorem own_d4_15 : decode prog_76_method_2_code 15 = .ok (.aload_n 0, 1) := by decide +kernel
theorem own_d4_16 : decode prog_76_method_2_code 16 = .ok (.aload_n 3, 1) := by decide +kernel
theorem own_d4_17 : decode prog_76_method_2_code 17 = .ok (.putfield 23, 3) := by decide +kernel
theorem own_d4_20 : decode prog_76_method_2_code 20 = .ok (.aload_n 0, 1) := by decide +kernel
theorem own_d4_21 : decode prog_76_method_2_code 21 = .ok (.iload 4, 2) := by decide +kernel
theorem own_d4_23 : decode prog_76_method_2_code 23 = .ok (.putfield 26, 3) := by decide +kernel
theorem own_d4_26 : decode prog_76_method_2_code 26 = .ok (.aload_n 0, 1) := by decide +kernel
theorem own_d4_27 : decode prog_76_method_2_code 27 = .ok (.aload 5, 2) := by decide +kernel
theorem own_d4_29 : decode prog_76_method_2_code 29 = .ok (.putfield 29, 3) := by decide +kernel
theorem own_d4_32 : decode prog_76_method_2_code 32 = .ok (.aload_n 0, 1) := by decide +kernel
theorem own_d4_33 : decode prog_76_method_2_code 33 = .ok (.iload_n 2, 1) := by decide +kernel
theorem own_d4_34 : decode prog_76_method_2_code 34 = .ok (.putfield 33, 3) := by decide +kernel
theorem own_d4_37 : decode prog_76_method_2_code 37 = .ok (.return_, 1) := by decide +kernel
theorem own_ef_own_rm4 (m : MethodId) (r0 : Addr) (r1 : Addr) (x2 : Int32) (r3 : Addr) (x4 : Int32) (r5 : Addr) : entryFrame m #[(.ref r0), (.ref r1), (.int x2), (.ref r3), (.int x4), (.ref r5)] 6 = mkF m 0 #[.val (.ref r0), .val (.ref r1), .val (.int x2), .val (.ref r3), .val (.int x4), .val (.ref r5)] [] := by first | (simp [entryFrame, mkF, argsToLocals, Value.category]; done) | rfl
def own_Q_own_rm4 (Z : State) (r0 : Addr) (r1 : Addr) (x2 : Int32) (r3 : Addr) (x4 : Int32) (r5 : Addr) (h0 : Heap) (n0 : Nat) (v : Option Value) (h : Heap) : Prop := v = none ∧ Keep h0 h [r0] ∧ Fld Z h r0 "com/example/deft_wiring/deftwiring/context/XmlScanner" "bytes" "[B" (.ref r1) ∧ Fld Z h r0 "com/example/deft_wiring/deftwiring/context/XmlScanner" "end" "I" (.int 2) ∧ Fld Z h r0 "com/example/deft_wiring/deftwiring/context/XmlScanner" "pos" "I" (.int x2)
set_option maxRecDepth 65536 in
set_option maxHeartbeats 40000000 in
theorem own_rm4 (l : Launch) (Z : State) (a0 : Array Value) (hw : ∀ d ∈ tables_1, d.before a0 Z = true) (ws : List Jvm.Cond) (r0 : Addr) (r1 : Addr) (x2 : Int32) (r3 : Addr) (x4 : Int32) (r5 : Addr) (u0 u1 : Int32) (h0 : Heap) (n0 : Nat)  (E : Exa Z h0 r0 "com/example/deft_wiring/deftwiring/context/XmlScanner") (Fbytes : Fld Z h0 r0 "com/example/deft_wiring/deftwiring/context/XmlScanner" "bytes" "[B" .null) (Fend : Fld Z h0 r0 "com/example/deft_wiring/deftwiring/context/XmlScanner" "end" "I" (.int (0 : Int32))) (Fdocument : Fld Z h0 r0 "com/example/deft_wiring/deftwiring/context/XmlScanner" "document" "[B" .null) (FreferenceEnd : Fld Z h0 r0 "com/example/deft_wiring/deftwiring/context/XmlScanner" "referenceEnd" "I" (.int (0 : Int32))) (Fnames : Fld Z h0 r0 "com/example/deft_wiring/deftwiring/context/XmlScanner" "names" "Lcom/example/deft_wiring/deftwiring/context/XmlScanner$Names;" .null) (Fpos : Fld Z h0 r0 "com/example/deft_wiring/deftwiring/context/XmlScanner" "pos" "I" (.int (0 : Int32))) (g : n0 ≤ r0) (A : own_A Z h0 r1 .byte [(.int u0), (.int u1)]) (nA : r1 ≠ r0) :
    own_Con l Z (⟨"com/example/deft_wiring/deftwiring/context/XmlScanner", "<init>", "([BI[BILcom/example/deft_wiring/deftwiring/context/XmlScanner$Names;)V"⟩ : MethodName) prog_76_method_2_code 6 none ws ({ frames := 1, cells := 0, slots := 0, locals := 12 } : Room) #[(.ref r0), (.ref r1), (.int x2), (.ref r3), (.int x4), (.ref r5)] h0 n0 (own_Q_own_rm4 Z r0 r1 x2 r3 x4 r5 h0 n0) := by
  refine own_body (plainFor_of_name own_pn1) ?_
  intro p e s m below meth c T0 hx hZ hby hml hown hnm hret hlk Y0
  replace hown : s.vm.findClass "com/example/deft_wiring/deftwiring/context/XmlScanner" = some m.cls := hown
  replace hnm : meth.name = "<init>" := hnm
  rw [own_ef_own_rm4 m r0 r1 x2 r3 x4 r5]
  show own_Ends _ _ _ _ (T0.setTop (mkF m 0 #[.val (.ref r0), .val (.ref r1), .val (.int x2), .val (.ref r3), .val (.int x4), .val (.ref r5)] []))
  refine own_st (fun t_ => XS.aloadN (own_here Y0) hx rfl (hb hby own_d4_0) rfl rfl) ?_
  show own_Ends _ _ _ _ (T0.setTop (mkF m 1 #[.val (.ref r0), .val (.ref r1), .val (.int x2), .val (.ref r3), .val (.int x4), .val (.ref r5)] [(.ref r0)]))
  refine own_initO Y0 hx hZ hown (hw _ (List.mem_of_getElem? (i := 28) rfl)) (hw _ (List.mem_of_getElem? (i := 15) rfl)) (hw _ (List.mem_of_getElem? (i := 16) rfl)) rfl (by rw [hml]; rfl) rfl (hb hby own_d4_1) (by decide) (W := 0) (by show 2 * 0 + _ ≤ _; exact Nat.le_of_eq rfl) (by decide) (fun T46 Y47 => ?_)
  show own_Ends _ _ _ _ (T46.setTop (mkF m 4 #[.val (.ref r0), .val (.ref r1), .val (.int x2), .val (.ref r3), .val (.int x4), .val (.ref r5)] []))
  refine own_st (fun t_ => XS.aloadN (own_here Y47) hx rfl (hb hby own_d4_4) rfl rfl) ?_
  show own_Ends _ _ _ _ (T46.setTop (mkF m 5 #[.val (.ref r0), .val (.ref r1), .val (.int x2), .val (.ref r3), .val (.int x4), .val (.ref r5)] [(.ref r0)]))
  refine own_st (fun t_ => XS.aloadN (own_here Y47) hx rfl (hb hby own_d4_5) rfl rfl) ?_
  show own_Ends _ _ _ _ (T46.setTop (mkF m 6 #[.val (.ref r0), .val (.ref r1), .val (.int x2), .val (.ref r3), .val (.int x4), .val (.ref r5)] [(.ref r1), (.ref r0)]))
  refine own_putF Y47 hx hZ hown (host := "") (Or.inl (hw _ (List.mem_of_getElem? (i := 29) rfl))) Via.refl Fbytes E (Or.inr ⟨(hw _ (List.mem_of_getElem? (i := 30) rfl)), rfl, hnm⟩) (hw _ (List.mem_of_getElem? (i := 3) rfl)) g (ty := (.array .byte)) (by decide) rfl rfl rfl rfl (hb hby own_d4_6) (fun T48 h50 Y49 W51 F52 => ?_)
  show own_Ends _ _ _ _ (T48.setTop (mkF m 9 #[.val (.ref r0), .val (.ref r1), .val (.int x2), .val (.ref r3), .val (.int x4), .val (.ref r5)] []))
  refine own_st (fun t_ => XS.aloadN (own_here Y49) hx rfl (hb hby own_d4_9) rfl rfl) ?_
  show own_Ends _ _ _ _ (T48.setTop (mkF m 10 #[.val (.ref r0), .val (.ref r1), .val (.int x2), .val (.ref r3), .val (.int x4), .val (.ref r5)] [(.ref r0)]))
  refine own_st (fun t_ => XS.aloadN (own_here Y49) hx rfl (hb hby own_d4_10) rfl rfl) ?_
  show own_Ends _ _ _ _ (T48.setTop (mkF m 11 #[.val (.ref r0), .val (.ref r1), .val (.int x2), .val (.ref r3), .val (.int x4), .val (.ref r5)] [(.ref r1), (.ref r0)]))
  have f53 : own_A Z h50 r1 .byte [(.int u0), (.int u1)] := A.other W51 nA
  refine own_len Y49 hx hZ f53 (z := (2 : Int32)) rfl rfl rfl (hb hby own_d4_11) ?_
  show own_Ends _ _ _ _ (T48.setTop (mkF m 12 #[.val (.ref r0), .val (.ref r1), .val (.int x2), .val (.ref r3), .val (.int x4), .val (.ref r5)] [(.int (2 : Int32)), (.ref r0)]))
  have f54 : Exa Z h50 r0 "com/example/deft_wiring/deftwiring/context/XmlScanner" := E.wr W51
  have f55 : Fld Z h50 r0 "com/example/deft_wiring/deftwiring/context/XmlScanner" "end" "I" (.int (0 : Int32)) := Fend.other W51 (Or.inr (slot_ne (Or.inr (hw _ (List.mem_of_getElem? (i := 32) rfl))) (Or.inr (hw _ (List.mem_of_getElem? (i := 30) rfl))) (by decide) (t := .int) (t' := (.array .byte)) (by decide) (by decide)))
  refine own_putF Y49 hx hZ hown (host := "") (Or.inl (hw _ (List.mem_of_getElem? (i := 31) rfl))) Via.refl f55 f54 (Or.inr ⟨(hw _ (List.mem_of_getElem? (i := 32) rfl)), rfl, hnm⟩) (hw _ (List.mem_of_getElem? (i := 3) rfl)) g (ty := .int) (by decide) rfl rfl rfl rfl (hb hby own_d4_12) (fun T56 h58 Y57 W59 F60 => ?_)
  show own_Ends _ _ _ _ (T56.setTop (mkF m 15 #[.val (.ref r0), .val (.ref r1), .val (.int x2), .val (.ref r3), .val (.int x4), .val (.ref r5)] []))
  refine own_st (fun t_ => XS.aloadN (own_here Y57) hx rfl (hb hby own_d4_15) rfl rfl) ?_
  show own_Ends _ _ _ _ (T56.setTop (mkF m 16 #[.val (.ref r0), .val (.ref r1), .val (.int x2), .val (.ref r3), .val (.int x4), .val (.ref r5)] [(.ref r0)]))
  refine own_st (fun t_ => XS.aloadN (own_here Y57) hx rfl (hb hby own_d4_16) rfl rfl) ?_
  show own_Ends _ _ _ _ (T56.setTop (mkF m 17 #[.val (.ref r0), .val (.ref r1), .val (.int x2), .val (.ref r3), .val (.int x4), .val (.ref r5)] [(.ref r3), (.ref r0)]))
  have f61 : Exa Z h58 r0 "com/example/deft_wiring/deftwiring/context/XmlScanner" := f54.wr W59
  have f62 : Fld Z h50 r0 "com/example/deft_wiring/deftwiring/context/XmlScanner" "document" "[B" .null := Fdocument.other W51 (Or.inr (slot_ne (Or.inr (hw _ (List.mem_of_getElem? (i := 34) rfl))) (Or.inr (hw _ (List.mem_of_getElem? (i := 30) rfl))) (by decide) (t := (.array .byte)) (t' := (.array .byte)) (by decide) (by decide)))
  have f63 : Fld Z h58 r0 "com/example/deft_wiring/deftwiring/context/XmlScanner" "document" "[B" .null := f62.other W59 (Or.inr (slot_ne (Or.inr (hw _ (List.mem_of_getElem? (i := 34) rfl))) (Or.inr (hw _ (List.mem_of_getElem? (i := 32) rfl))) (by decide) (t := (.array .byte)) (t' := .int) (by decide) (by decide)))
  refine own_putF Y57 hx hZ hown (host := "") (Or.inl (hw _ (List.mem_of_getElem? (i := 33) rfl))) Via.refl f63 f61 (Or.inr ⟨(hw _ (List.mem_of_getElem? (i := 34) rfl)), rfl, hnm⟩) (hw _ (List.mem_of_getElem? (i := 3) rfl)) g (ty := (.array .byte)) (by decide) rfl rfl rfl rfl (hb hby own_d4_17) (fun T64 h66 Y65 W67 F68 => ?_)
  show own_Ends _ _ _ _ (T64.setTop (mkF m 20 #[.val (.ref r0), .val (.ref r1), .val (.int x2), .val (.ref r3), .val (.int x4), .val (.ref r5)] []))
  refine own_st (fun t_ => XS.aloadN (own_here Y65) hx rfl (hb hby own_d4_20) rfl rfl) ?_
  show own_Ends _ _ _ _ (T64.setTop (mkF m 21 #[.val (.ref r0), .val (.ref r1), .val (.int x2), .val (.ref r3), .val (.int x4), .val (.ref r5)] [(.ref r0)]))
  refine own_st (fun t_ => XS.iload (own_here Y65) hx rfl (hb hby own_d4_21) rfl) ?_
  show own_Ends _ _ _ _ (T64.setTop (mkF m 23 #[.val (.ref r0), .val (.ref r1), .val (.int x2), .val (.ref r3), .val (.int x4), .val (.ref r5)] [(.int x4), (.ref r0)]))
  have f69 : Exa Z h66 r0 "com/example/deft_wiring/deftwiring/context/XmlScanner" := f61.wr W67
  have f70 : Fld Z h50 r0 "com/example/deft_wiring/deftwiring/context/XmlScanner" "referenceEnd" "I" (.int (0 : Int32)) := FreferenceEnd.other W51 (Or.inr (slot_ne (Or.inr (hw _ (List.mem_of_getElem? (i := 36) rfl))) (Or.inr (hw _ (List.mem_of_getElem? (i := 30) rfl))) (by decide) (t := .int) (t' := (.array .byte)) (by decide) (by decide)))
  have f71 : Fld Z h58 r0 "com/example/deft_wiring/deftwiring/context/XmlScanner" "referenceEnd" "I" (.int (0 : Int32)) := f70.other W59 (Or.inr (slot_ne (Or.inr (hw _ (List.mem_of_getElem? (i := 36) rfl))) (Or.inr (hw _ (List.mem_of_getElem? (i := 32) rfl))) (by decide) (t := .int) (t' := .int) (by decide) (by decide)))
  have f72 : Fld Z h66 r0 "com/example/deft_wiring/deftwiring/context/XmlScanner" "referenceEnd" "I" (.int (0 : Int32)) := f71.other W67 (Or.inr (slot_ne (Or.inr (hw _ (List.mem_of_getElem? (i := 36) rfl))) (Or.inr (hw _ (List.mem_of_getElem? (i := 34) rfl))) (by decide) (t := .int) (t' := (.array .byte)) (by decide) (by decide)))
  refine own_putF Y65 hx hZ hown (host := "") (Or.inl (hw _ (List.mem_of_getElem? (i := 35) rfl))) Via.refl f72 f69 (Or.inr ⟨(hw _ (List.mem_of_getElem? (i := 36) rfl)), rfl, hnm⟩) (hw _ (List.mem_of_getElem? (i := 3) rfl)) g (ty := .int) (by decide) rfl rfl rfl rfl (hb hby own_d4_23) (fun T73 h75 Y74 W76 F77 => ?_)
  show own_Ends _ _ _ _ (T73.setTop (mkF m 26 #[.val (.ref r0), .val (.ref r1), .val (.int x2), .val (.ref r3), .val (.int x4), .val (.ref r5)] []))
  refine own_st (fun t_ => XS.aloadN (own_here Y74) hx rfl (hb hby own_d4_26) rfl rfl) ?_
  show own_Ends _ _ _ _ (T73.setTop (mkF m 27 #[.val (.ref r0), .val (.ref r1), .val (.int x2), .val (.ref r3), .val (.int x4), .val (.ref r5)] [(.ref r0)]))
  refine own_st (fun t_ => XS.aload (own_here Y74) hx rfl (hb hby own_d4_27) rfl rfl) ?_
  show own_Ends _ _ _ _ (T73.setTop (mkF m 29 #[.val (.ref r0), .val (.ref r1), .val (.int x2), .val (.ref r3), .val (.int x4), .val (.ref r5)] [(.ref r5), (.ref r0)]))
  have f78 : Exa Z h75 r0 "com/example/deft_wiring/deftwiring/context/XmlScanner" := f69.wr W76
  have f79 : Fld Z h50 r0 "com/example/deft_wiring/deftwiring/context/XmlScanner" "names" "Lcom/example/deft_wiring/deftwiring/context/XmlScanner$Names;" .null := Fnames.other W51 (Or.inr (slot_ne (Or.inr (hw _ (List.mem_of_getElem? (i := 38) rfl))) (Or.inr (hw _ (List.mem_of_getElem? (i := 30) rfl))) (by decide) (t := (.object "com/example/deft_wiring/deftwiring/context/XmlScanner$Names")) (t' := (.array .byte)) (by decide) (by decide)))
  have f80 : Fld Z h58 r0 "com/example/deft_wiring/deftwiring/context/XmlScanner" "names" "Lcom/example/deft_wiring/deftwiring/context/XmlScanner$Names;" .null := f79.other W59 (Or.inr (slot_ne (Or.inr (hw _ (List.mem_of_getElem? (i := 38) rfl))) (Or.inr (hw _ (List.mem_of_getElem? (i := 32) rfl))) (by decide) (t := (.object "com/example/deft_wiring/deftwiring/context/XmlScanner$Names")) (t' := .int) (by decide) (by decide)))
  have f81 : Fld Z h66 r0 "com/example/deft_wiring/deftwiring/context/XmlScanner" "names" "Lcom/example/deft_wiring/deftwiring/context/XmlScanner$Names;" .null := f80.other W67 (Or.inr (slot_ne (Or.inr (hw _ (List.mem_of_getElem? (i := 38) rfl))) (Or.inr (hw _ (List.mem_of_getElem? (i := 34) rfl))) (by decide) (t := (.object "com/example/deft_wiring/deftwiring/context/XmlScanner$Names")) (t' := (.array .byte)) (by decide) (by decide)))
  have f82 : Fld Z h75 r0 "com/example/deft_wiring/deftwiring/context/XmlScanner" "names" "Lcom/example/deft_wiring/deftwiring/context/XmlScanner$Names;" .null := f81.other W76 (Or.inr (slot_ne (Or.inr (hw _ (List.mem_of_getElem? (i := 38) rfl))) (Or.inr (hw _ (List.mem_of_getElem? (i := 36) rfl))) (by decide) (t := (.object "com/example/deft_wiring/deftwiring/context/XmlScanner$Names")) (t' := .int) (by decide) (by decide)))
  refine own_putF Y74 hx hZ hown (host := "") (Or.inl (hw _ (List.mem_of_getElem? (i := 37) rfl))) Via.refl f82 f78 (Or.inr ⟨(hw _ (List.mem_of_getElem? (i := 38) rfl)), rfl, hnm⟩) (hw _ (List.mem_of_getElem? (i := 3) rfl)) g (ty := (.object "com/example/deft_wiring/deftwiring/context/XmlScanner$Names")) (by decide) rfl rfl rfl rfl (hb hby own_d4_29) (fun T83 h85 Y84 W86 F87 => ?_)
  show own_Ends _ _ _ _ (T83.setTop (mkF m 32 #[.val (.ref r0), .val (.ref r1), .val (.int x2), .val (.ref r3), .val (.int x4), .val (.ref r5)] []))
  refine own_st (fun t_ => XS.aloadN (own_here Y84) hx rfl (hb hby own_d4_32) rfl rfl) ?_
  show own_Ends _ _ _ _ (T83.setTop (mkF m 33 #[.val (.ref r0), .val (.ref r1), .val (.int x2), .val (.ref r3), .val (.int x4), .val (.ref r5)] [(.ref r0)]))
  refine own_st (fun t_ => XS.iloadN (own_here Y84) hx rfl (hb hby own_d4_33) rfl) ?_
  show own_Ends _ _ _ _ (T83.setTop (mkF m 34 #[.val (.ref r0), .val (.ref r1), .val (.int x2), .val (.ref r3), .val (.int x4), .val (.ref r5)] [(.int x2), (.ref r0)]))
  have f88 : Exa Z h85 r0 "com/example/deft_wiring/deftwiring/context/XmlScanner" := f78.wr W86
  have f89 : Fld Z h50 r0 "com/example/deft_wiring/deftwiring/context/XmlScanner" "pos" "I" (.int (0 : Int32)) := Fpos.other W51 (Or.inr (slot_ne (Or.inl (hw _ (List.mem_of_getElem? (i := 40) rfl))) (Or.inr (hw _ (List.mem_of_getElem? (i := 30) rfl))) (by decide) (t := .int) (t' := (.array .byte)) (by decide) (by decide)))
  have f90 : Fld Z h58 r0 "com/example/deft_wiring/deftwiring/context/XmlScanner" "pos" "I" (.int (0 : Int32)) := f89.other W59 (Or.inr (slot_ne (Or.inl (hw _ (List.mem_of_getElem? (i := 40) rfl))) (Or.inr (hw _ (List.mem_of_getElem? (i := 32) rfl))) (by decide) (t := .int) (t' := .int) (by decide) (by decide)))
  have f91 : Fld Z h66 r0 "com/example/deft_wiring/deftwiring/context/XmlScanner" "pos" "I" (.int (0 : Int32)) := f90.other W67 (Or.inr (slot_ne (Or.inl (hw _ (List.mem_of_getElem? (i := 40) rfl))) (Or.inr (hw _ (List.mem_of_getElem? (i := 34) rfl))) (by decide) (t := .int) (t' := (.array .byte)) (by decide) (by decide)))
  have f92 : Fld Z h75 r0 "com/example/deft_wiring/deftwiring/context/XmlScanner" "pos" "I" (.int (0 : Int32)) := f91.other W76 (Or.inr (slot_ne (Or.inl (hw _ (List.mem_of_getElem? (i := 40) rfl))) (Or.inr (hw _ (List.mem_of_getElem? (i := 36) rfl))) (by decide) (t := .int) (t' := .int) (by decide) (by decide)))
  have f93 : Fld Z h85 r0 "com/example/deft_wiring/deftwiring/context/XmlScanner" "pos" "I" (.int (0 : Int32)) := f92.other W86 (Or.inr (slot_ne (Or.inl (hw _ (List.mem_of_getElem? (i := 40) rfl))) (Or.inr (hw _ (List.mem_of_getElem? (i := 38) rfl))) (by decide) (t := .int) (t' := (.object "com/example/deft_wiring/deftwiring/context/XmlScanner$Names")) (by decide) (by decide)))
  refine own_putF Y84 hx hZ hown (host := "") (Or.inl (hw _ (List.mem_of_getElem? (i := 39) rfl))) Via.refl f93 f88 (Or.inl (hw _ (List.mem_of_getElem? (i := 40) rfl))) (hw _ (List.mem_of_getElem? (i := 3) rfl)) g (ty := .int) (by decide) rfl rfl rfl rfl (hb hby own_d4_34) (fun T94 h96 Y95 W97 F98 => ?_)
  show own_Ends _ _ _ _ (T94.setTop (mkF m 37 #[.val (.ref r0), .val (.ref r1), .val (.int x2), .val (.ref r3), .val (.int x4), .val (.ref r5)] []))
  have K99 : Keep h0 h50 [r0] := (Keep.refl h0 [r0]).wr W51 (Or.inl (List.mem_of_getElem? (i := 0) rfl))
  have K100 : Keep h0 h58 [r0] := K99.wr W59 (Or.inl (List.mem_of_getElem? (i := 0) rfl))
  have K101 : Keep h0 h66 [r0] := K100.wr W67 (Or.inl (List.mem_of_getElem? (i := 0) rfl))
  have K102 : Keep h0 h75 [r0] := K101.wr W76 (Or.inl (List.mem_of_getElem? (i := 0) rfl))
  have K103 : Keep h0 h85 [r0] := K102.wr W86 (Or.inl (List.mem_of_getElem? (i := 0) rfl))
  have K104 : Keep h0 h96 [r0] := K103.wr W97 (Or.inl (List.mem_of_getElem? (i := 0) rfl))
  have f105 : Fld Z h58 r0 "com/example/deft_wiring/deftwiring/context/XmlScanner" "bytes" "[B" (.ref r1) := F52.other W59 (Or.inr (slot_ne (Or.inr (hw _ (List.mem_of_getElem? (i := 30) rfl))) (Or.inr (hw _ (List.mem_of_getElem? (i := 32) rfl))) (by decide) (t := (.array .byte)) (t' := .int) (by decide) (by decide)))
  have f106 : Fld Z h66 r0 "com/example/deft_wiring/deftwiring/context/XmlScanner" "bytes" "[B" (.ref r1) := f105.other W67 (Or.inr (slot_ne (Or.inr (hw _ (List.mem_of_getElem? (i := 30) rfl))) (Or.inr (hw _ (List.mem_of_getElem? (i := 34) rfl))) (by decide) (t := (.array .byte)) (t' := (.array .byte)) (by decide) (by decide)))
  have f107 : Fld Z h75 r0 "com/example/deft_wiring/deftwiring/context/XmlScanner" "bytes" "[B" (.ref r1) := f106.other W76 (Or.inr (slot_ne (Or.inr (hw _ (List.mem_of_getElem? (i := 30) rfl))) (Or.inr (hw _ (List.mem_of_getElem? (i := 36) rfl))) (by decide) (t := (.array .byte)) (t' := .int) (by decide) (by decide)))
  have f108 : Fld Z h85 r0 "com/example/deft_wiring/deftwiring/context/XmlScanner" "bytes" "[B" (.ref r1) := f107.other W86 (Or.inr (slot_ne (Or.inr (hw _ (List.mem_of_getElem? (i := 30) rfl))) (Or.inr (hw _ (List.mem_of_getElem? (i := 38) rfl))) (by decide) (t := (.array .byte)) (t' := (.object "com/example/deft_wiring/deftwiring/context/XmlScanner$Names")) (by decide) (by decide)))
  have f109 : Fld Z h96 r0 "com/example/deft_wiring/deftwiring/context/XmlScanner" "bytes" "[B" (.ref r1) := f108.other W97 (Or.inr (slot_ne (Or.inr (hw _ (List.mem_of_getElem? (i := 30) rfl))) (Or.inl (hw _ (List.mem_of_getElem? (i := 40) rfl))) (by decide) (t := (.array .byte)) (t' := .int) (by decide) (by decide)))
  have f110 : Fld Z h66 r0 "com/example/deft_wiring/deftwiring/context/XmlScanner" "end" "I" (.int (2 : Int32)) := F60.other W67 (Or.inr (slot_ne (Or.inr (hw _ (List.mem_of_getElem? (i := 32) rfl))) (Or.inr (hw _ (List.mem_of_getElem? (i := 34) rfl))) (by decide) (t := .int) (t' := (.array .byte)) (by decide) (by decide)))
  have f111 : Fld Z h75 r0 "com/example/deft_wiring/deftwiring/context/XmlScanner" "end" "I" (.int (2 : Int32)) := f110.other W76 (Or.inr (slot_ne (Or.inr (hw _ (List.mem_of_getElem? (i := 32) rfl))) (Or.inr (hw _ (List.mem_of_getElem? (i := 36) rfl))) (by decide) (t := .int) (t' := .int) (by decide) (by decide)))
  have f112 : Fld Z h85 r0 "com/example/deft_wiring/deftwiring/context/XmlScanner" "end" "I" (.int (2 : Int32)) := f111.other W86 (Or.inr (slot_ne (Or.inr (hw _ (List.mem_of_getElem? (i := 32) rfl))) (Or.inr (hw _ (List.mem_of_getElem? (i := 38) rfl))) (by decide) (t := .int) (t' := (.object "com/example/deft_wiring/deftwiring/context/XmlScanner$Names")) (by decide) (by decide)))
  have f113 : Fld Z h96 r0 "com/example/deft_wiring/deftwiring/context/XmlScanner" "end" "I" (.int (2 : Int32)) := f112.other W97 (Or.inr (slot_ne (Or.inr (hw _ (List.mem_of_getElem? (i := 32) rfl))) (Or.inl (hw _ (List.mem_of_getElem? (i := 40) rfl))) (by decide) (t := .int) (t' := .int) (by decide) (by decide)))
  refine own_retV Y95 hx hlk hret (hb hby own_d4_37) (by decide) (by decide) ?_
  exact ⟨rfl, K104, f109, f113, F98⟩
theorem own_pd0 : parseMethodDescriptor "()V" = some ⟨[], none⟩ := by decide +kernel
theorem own_pd1 : parseMethodDescriptor "([BI[BILcom/example/deft_wiring/deftwiring/context/XmlScanner$Names;)V" = some ⟨[(.array .byte), .int, (.array .byte), .int, (.object "com/example/deft_wiring/deftwiring/context/XmlScanner$Names")], none⟩ := by decide +kernel
theorem own_d1_0 : decode prog_76_method_1_code 0 = .ok (.aload_n 0, 1) := by decide +kernel
theorem own_d1_1 : decode prog_76_method_1_code 1 = .ok (.aload_n 1, 1) := by decide +kernel
theorem own_d1_2 : decode prog_76_method_1_code 2 = .ok (.iload_n 2, 1) := by decide +kernel
theorem own_d1_3 : decode prog_76_method_1_code 3 = .ok (.aload_n 1, 1) := by decide +kernel
theorem own_d1_4 : decode prog_76_method_1_code 4 = .ok (.iconst (-1), 1) := by decide +kernel
theorem own_d1_5 : decode prog_76_method_1_code 5 = .ok (.new 1, 3) := by decide +kernel
theorem own_d1_8 : decode prog_76_method_1_code 8 = .ok (.dup, 1) := by decide +kernel
theorem own_d1_9 : decode prog_76_method_1_code 9 = .ok (.invokespecial 3, 3) := by decide +kernel
theorem own_d1_12 : decode prog_76_method_1_code 12 = .ok (.invokespecial 7, 3) := by decide +kernel
theorem own_d1_15 : decode prog_76_method_1_code 15 = .ok (.return_, 1) := by decide +kernel
theorem own_ef_own_rm1 (m : MethodId) (r0 : Addr) (r1 : Addr) (x2 : Int32) : entryFrame m #[(.ref r0), (.ref r1), (.int x2)] 3 = mkF m 0 #[.val (.ref r0), .val (.ref r1), .val (.int x2)] [] := by first | (simp [entryFrame, mkF, argsToLocals, Value.category]; done) | rfl
def own_Q_own_rm1 (Z : State) (r0 : Addr) (r1 : Addr) (x2 : Int32) (h0 : Heap) (n0 : Nat) (v : Option Value) (h : Heap) : Prop := v = none ∧ Keep h0 h [r0] ∧ Fld Z h r0 "com/example/deft_wiring/deftwiring/context/XmlScanner" "bytes" "[B" (.ref r1) ∧ Fld Z h r0 "com/example/deft_wiring/deftwiring/context/XmlScanner" "end" "I" (.int 2) ∧ Fld Z h r0 "com/example/deft_wiring/deftwiring/context/XmlScanner" "pos" "I" (.int x2)
set_option maxRecDepth 65536 in
set_option maxHeartbeats 40000000 in
theorem own_rm1 (l : Launch) (Z : State) (a0 : Array Value) (hw : ∀ d ∈ tables_1, d.before a0 Z = true) (ws : List Jvm.Cond) (r0 : Addr) (r1 : Addr) (x2 : Int32) (u0 u1 : Int32) (h0 : Heap) (n0 : Nat) (Z0 : n0 ≤ h0.size) (E : Exa Z h0 r0 "com/example/deft_wiring/deftwiring/context/XmlScanner") (Fbytes : Fld Z h0 r0 "com/example/deft_wiring/deftwiring/context/XmlScanner" "bytes" "[B" .null) (Fend : Fld Z h0 r0 "com/example/deft_wiring/deftwiring/context/XmlScanner" "end" "I" (.int (0 : Int32))) (Fdocument : Fld Z h0 r0 "com/example/deft_wiring/deftwiring/context/XmlScanner" "document" "[B" .null) (FreferenceEnd : Fld Z h0 r0 "com/example/deft_wiring/deftwiring/context/XmlScanner" "referenceEnd" "I" (.int (0 : Int32))) (Fnames : Fld Z h0 r0 "com/example/deft_wiring/deftwiring/context/XmlScanner" "names" "Lcom/example/deft_wiring/deftwiring/context/XmlScanner$Names;" .null) (Fpos : Fld Z h0 r0 "com/example/deft_wiring/deftwiring/context/XmlScanner" "pos" "I" (.int (0 : Int32))) (g : n0 ≤ r0) (A : own_A Z h0 r1 .byte [(.int u0), (.int u1)]) (nA : r1 ≠ r0) :
    own_Con l Z (⟨"com/example/deft_wiring/deftwiring/context/XmlScanner", "<init>", "([BI)V"⟩ : MethodName) prog_76_method_1_code 3 none ws ({ frames := 2, cells := 3, slots := 1026, locals := 30 } : Room) #[(.ref r0), (.ref r1), (.int x2)] h0 n0 (own_Q_own_rm1 Z r0 r1 x2 h0 n0) := by
  refine own_body (plainFor_of_name own_pn1) ?_
  intro p e s m below meth c T0 hx hZ hby hml hown hnm hret hlk Y0
  replace hown : s.vm.findClass "com/example/deft_wiring/deftwiring/context/XmlScanner" = some m.cls := hown
  replace hnm : meth.name = "<init>" := hnm
  rw [own_ef_own_rm1 m r0 r1 x2]
  show own_Ends _ _ _ _ (T0.setTop (mkF m 0 #[.val (.ref r0), .val (.ref r1), .val (.int x2)] []))
  refine own_st (fun t_ => XS.aloadN (own_here Y0) hx rfl (hb hby own_d1_0) rfl rfl) ?_
  show own_Ends _ _ _ _ (T0.setTop (mkF m 1 #[.val (.ref r0), .val (.ref r1), .val (.int x2)] [(.ref r0)]))
  refine own_st (fun t_ => XS.aloadN (own_here Y0) hx rfl (hb hby own_d1_1) rfl rfl) ?_
  show own_Ends _ _ _ _ (T0.setTop (mkF m 2 #[.val (.ref r0), .val (.ref r1), .val (.int x2)] [(.ref r1), (.ref r0)]))
  refine own_st (fun t_ => XS.iloadN (own_here Y0) hx rfl (hb hby own_d1_2) rfl) ?_
  show own_Ends _ _ _ _ (T0.setTop (mkF m 3 #[.val (.ref r0), .val (.ref r1), .val (.int x2)] [(.int x2), (.ref r1), (.ref r0)]))
  refine own_st (fun t_ => XS.aloadN (own_here Y0) hx rfl (hb hby own_d1_3) rfl rfl) ?_
  show own_Ends _ _ _ _ (T0.setTop (mkF m 4 #[.val (.ref r0), .val (.ref r1), .val (.int x2)] [(.ref r1), (.int x2), (.ref r1), (.ref r0)]))
  refine own_st (fun t_ => XS.iconst (own_here Y0) hx rfl (hb hby own_d1_4) ) ?_
  show own_Ends _ _ _ _ (T0.setTop (mkF m 5 #[.val (.ref r0), .val (.ref r1), .val (.int x2)] [(.int (-1 : Int32)), (.ref r1), (.int x2), (.ref r1), (.ref r0)]))
  refine own_new Y0 hx hZ hown (hw _ (List.mem_of_getElem? (i := 8) rfl)) (hw _ (List.mem_of_getElem? (i := 9) rfl)) (hw _ (List.mem_of_getElem? (i := 10) rfl)) rfl (hb hby own_d1_5) (by decide) (by decide) (fun T114 h116 b120 eb121 Y115 E117 X118 D119 => ?_)
  have ne122 : r0 ≠ b120 := Nat.ne_of_lt (by rw [eb121]; exact E.lt)
  have ne123 : r1 ≠ b120 := Nat.ne_of_lt (by rw [eb121]; exact A.lt)
  have g124 : n0 ≤ b120 := by rw [eb121]; exact Z0
  have F125 : Fld Z h116 b120 "com/example/deft_wiring/deftwiring/context/XmlScanner$Names" "strings" "[Ljava/lang/String;" .null := D119 _ _ _ (.array (.object "java/lang/String")) (Or.inr (hw _ (List.mem_of_getElem? (i := 20) rfl))) (by decide)
  have F126 : Fld Z h116 b120 "com/example/deft_wiring/deftwiring/context/XmlScanner$Names" "bytes" "[[B" .null := D119 _ _ _ (.array (.array .byte)) (Or.inr (hw _ (List.mem_of_getElem? (i := 24) rfl))) (by decide)
  show own_Ends _ _ _ _ (T114.setTop (mkF m 8 #[.val (.ref r0), .val (.ref r1), .val (.int x2)] [(.ref b120), (.int (-1 : Int32)), (.ref r1), (.int x2), (.ref r1), (.ref r0)]))
  refine own_st (fun t_ => XS.dup (own_here Y115) hx rfl (hb hby own_d1_8) rfl rfl) ?_
  show own_Ends _ _ _ _ (T114.setTop (mkF m 9 #[.val (.ref r0), .val (.ref r1), .val (.int x2)] [(.ref b120), (.ref b120), (.int (-1 : Int32)), (.ref r1), (.int x2), (.ref r1), (.ref r0)]))
  have z127 : n0 ≤ h116.size := Nat.le_trans Z0 E117.1
  refine own_callNR Y115 hx hZ (y := (⟨"com/example/deft_wiring/deftwiring/context/XmlScanner$Names", "<init>", "()V"⟩ : MethodName)) rfl hown (hw _ (List.mem_of_getElem? (i := 11) rfl)) (hw _ (List.mem_of_getElem? (i := 12) rfl)) (hw _ (List.mem_of_getElem? (i := 10) rfl)) (hw _ (List.mem_of_getElem? (i := 13) rfl)) (by decide) (a := b120) (argsL := []) (rest := [(.ref b120), (.int (-1 : Int32)), (.ref r1), (.int x2), (.ref r1), (.ref r0)]) (own_rm2 l Z a0 hw [] b120  h116 n0 z127 X118 F125 F126 g124) (W := 6) (by decide) (by decide) (by decide) (by decide) rfl (by rw [hml]; rfl) (lenOf own_pd0 rfl) rfl (by show 2 * 0 + _ ≤ _; exact Nat.le_of_eq rfl) (hb hby own_d1_9) (fun T128 h130 v131 Y129 q132 => ?_)
  obtain ⟨rfl, K133⟩ := q132
  show own_Ends _ _ _ _ (T128.setTop (mkF m 12 #[.val (.ref r0), .val (.ref r1), .val (.int x2)] [(.ref b120), (.int (-1 : Int32)), (.ref r1), (.int x2), (.ref r1), (.ref r0)]))
  have f134 : Exa Z h116 r0 "com/example/deft_wiring/deftwiring/context/XmlScanner" := E.ext E117
  have f135 : Exa Z h130 r0 "com/example/deft_wiring/deftwiring/context/XmlScanner" := f134.keep K133
  have f136 : Fld Z h116 r0 "com/example/deft_wiring/deftwiring/context/XmlScanner" "bytes" "[B" .null := Fbytes.ext E117
  have f137 : Fld Z h130 r0 "com/example/deft_wiring/deftwiring/context/XmlScanner" "bytes" "[B" .null := f136.keep K133 (ninS ne122 nin0)
  have f138 : Fld Z h116 r0 "com/example/deft_wiring/deftwiring/context/XmlScanner" "end" "I" (.int (0 : Int32)) := Fend.ext E117
  have f139 : Fld Z h130 r0 "com/example/deft_wiring/deftwiring/context/XmlScanner" "end" "I" (.int (0 : Int32)) := f138.keep K133 (ninS ne122 nin0)
  have f140 : Fld Z h116 r0 "com/example/deft_wiring/deftwiring/context/XmlScanner" "document" "[B" .null := Fdocument.ext E117
  have f141 : Fld Z h130 r0 "com/example/deft_wiring/deftwiring/context/XmlScanner" "document" "[B" .null := f140.keep K133 (ninS ne122 nin0)
  have f142 : Fld Z h116 r0 "com/example/deft_wiring/deftwiring/context/XmlScanner" "referenceEnd" "I" (.int (0 : Int32)) := FreferenceEnd.ext E117
  have f143 : Fld Z h130 r0 "com/example/deft_wiring/deftwiring/context/XmlScanner" "referenceEnd" "I" (.int (0 : Int32)) := f142.keep K133 (ninS ne122 nin0)
  have f144 : Fld Z h116 r0 "com/example/deft_wiring/deftwiring/context/XmlScanner" "names" "Lcom/example/deft_wiring/deftwiring/context/XmlScanner$Names;" .null := Fnames.ext E117
  have f145 : Fld Z h130 r0 "com/example/deft_wiring/deftwiring/context/XmlScanner" "names" "Lcom/example/deft_wiring/deftwiring/context/XmlScanner$Names;" .null := f144.keep K133 (ninS ne122 nin0)
  have f146 : Fld Z h116 r0 "com/example/deft_wiring/deftwiring/context/XmlScanner" "pos" "I" (.int (0 : Int32)) := Fpos.ext E117
  have f147 : Fld Z h130 r0 "com/example/deft_wiring/deftwiring/context/XmlScanner" "pos" "I" (.int (0 : Int32)) := f146.keep K133 (ninS ne122 nin0)
  have f148 : own_A Z h116 r1 .byte [(.int u0), (.int u1)] := A.ext E117
  have f149 : own_A Z h130 r1 .byte [(.int u0), (.int u1)] := f148.keep K133 (ninS ne123 nin0)
  refine own_callN Y129 hx hZ (y := (⟨"com/example/deft_wiring/deftwiring/context/XmlScanner", "<init>", "([BI[BILcom/example/deft_wiring/deftwiring/context/XmlScanner$Names;)V"⟩ : MethodName)) rfl hown (hw _ (List.mem_of_getElem? (i := 25) rfl)) (hw _ (List.mem_of_getElem? (i := 26) rfl)) (hw _ (List.mem_of_getElem? (i := 4) rfl)) (hw _ (List.mem_of_getElem? (i := 27) rfl)) (by decide) (a := r0) (argsL := [(.ref r1), (.int x2), (.ref r1), (.int (-1 : Int32)), (.ref b120)]) (rest := []) (own_rm4 l Z a0 hw [] r0 r1 x2 r1 (-1 : Int32) b120 u0 u1 h130 n0  f135 f137 f139 f141 f143 f145 f147 g f149 nA) (W := 0) (by decide) (by decide) (by decide) (by decide) rfl (by rw [hml]; rfl) (lenOf own_pd1 rfl) rfl (by show 2 * 0 + _ ≤ _; exact Nat.le_of_eq rfl) (hb hby own_d1_12) (fun T150 h152 v153 Y151 q154 => ?_)
  obtain ⟨rfl, K155, F156, F157, F158⟩ := q154
  show own_Ends _ _ _ _ (T150.setTop (mkF m 15 #[.val (.ref r0), .val (.ref r1), .val (.int x2)] []))
  have K159 : Keep h0 h116 [r0] := (Keep.refl h0 [r0]).ext E117
  have K160 : Keep h0 h130 [r0] := K159.trans K133 (allS (Or.inr (by rw [eb121]; exact (Keep.refl h0 [r0]).1)) all0)
  have K161 : Keep h0 h152 [r0] := K160.trans K155 (allS (Or.inl (List.mem_of_getElem? (i := 0) rfl)) all0)
  refine own_retV Y151 hx hlk hret (hb hby own_d1_15) (by decide) (by decide) ?_
  exact ⟨rfl, K161, F156, F157, F158⟩
theorem own_pn2 : plainName "com/example/deft_wiring/deftwiring/context/XmlScannerSkipPinLaw" = true := by first | (simp [plainName, overriddenIn]; done) | decide +kernel
theorem own_d5_0 : decode method_3_code 0 = .ok (.iload_n 2, 1) := by decide +kernel
theorem own_d5_1 : decode method_3_code 1 = .ok (.ifCond .ne 9, 3) := by decide +kernel
theorem own_d5_4 : decode method_3_code 4 = .ok (.iload_n 0, 1) := by decide +kernel
theorem own_d5_5 : decode method_3_code 5 = .ok (.sipush 255, 3) := by decide +kernel
theorem own_d5_8 : decode method_3_code 8 = .ok (.iand, 1) := by decide +kernel
theorem own_d5_9 : decode method_3_code 9 = .ok (.ireturn, 1) := by decide +kernel
theorem own_ef_own_rm5_0 (m : MethodId) (x0 : Int32) (x1 : Int32) : entryFrame m #[(.int x0), (.int x1), (.int (0 : Int32))] 3 = mkF m 0 #[.val (.int x0), .val (.int x1), .val (.int (0 : Int32))] [] := by first | (simp [entryFrame, mkF, argsToLocals, Value.category]; done) | rfl
def own_Q_own_rm5_0 (Z : State) (x0 : Int32) (x1 : Int32) (h0 : Heap) (n0 : Nat) (v : Option Value) (h : Heap) : Prop := v = some (.int (x0 &&& (255 : Int32))) ∧ h0 = h
set_option maxRecDepth 65536 in
set_option maxHeartbeats 40000000 in
theorem own_rm5_0 (l : Launch) (Z : State) (a0 : Array Value) (hw : ∀ d ∈ tables_1, d.before a0 Z = true) (ws : List Jvm.Cond) (x0 : Int32) (x1 : Int32)  (h0 : Heap) (n0 : Nat)   :
    own_Con l Z (⟨"com/example/deft_wiring/deftwiring/context/XmlScannerSkipPinLaw", "at", "(BBI)I"⟩ : MethodName) method_3_code 3 (some .int) ws ({ frames := 0, cells := 0, slots := 0, locals := 0 } : Room) #[(.int x0), (.int x1), (.int (0 : Int32))] h0 n0 (own_Q_own_rm5_0 Z x0 x1 h0 n0) := by
  refine own_body (plainFor_of_name own_pn2) ?_
  intro p e s m below meth c T0 hx hZ hby hml hown hnm hret hlk Y0
  replace hown : s.vm.findClass "com/example/deft_wiring/deftwiring/context/XmlScannerSkipPinLaw" = some m.cls := hown
  replace hnm : meth.name = "at" := hnm
  rw [own_ef_own_rm5_0 m x0 x1]
  show own_Ends _ _ _ _ (T0.setTop (mkF m 0 #[.val (.int x0), .val (.int x1), .val (.int (0 : Int32))] []))
  refine own_st (fun t_ => XS.iloadN (own_here Y0) hx rfl (hb hby own_d5_0) rfl) ?_
  show own_Ends _ _ _ _ (T0.setTop (mkF m 1 #[.val (.int x0), .val (.int x1), .val (.int (0 : Int32))] [(.int (0 : Int32))]))
  refine own_st (fun t_ => XS.ifNo (own_here Y0) hx rfl (hb hby own_d5_1) rfl (XT.i0_ne_f (by decide))) ?_
  show own_Ends _ _ _ _ (T0.setTop (mkF m 4 #[.val (.int x0), .val (.int x1), .val (.int (0 : Int32))] []))
  refine own_st (fun t_ => XS.iloadN (own_here Y0) hx rfl (hb hby own_d5_4) rfl) ?_
  show own_Ends _ _ _ _ (T0.setTop (mkF m 5 #[.val (.int x0), .val (.int x1), .val (.int (0 : Int32))] [(.int x0)]))
  refine own_st (fun t_ => XS.sipush (own_here Y0) hx rfl (hb hby own_d5_5) ) ?_
  show own_Ends _ _ _ _ (T0.setTop (mkF m 8 #[.val (.int x0), .val (.int x1), .val (.int (0 : Int32))] [(.int (255 : Int32)), (.int x0)]))
  refine own_st (fun t_ => XS.iand (own_here Y0) hx rfl (hb hby own_d5_8) rfl) ?_
  show own_Ends _ _ _ _ (T0.setTop (mkF m 9 #[.val (.int x0), .val (.int x1), .val (.int (0 : Int32))] [(.int (x0 &&& (255 : Int32)))]))
  refine own_retI Y0 hx hlk hret (hb hby own_d5_9) (by decide) (by decide) ?_
  exact ⟨rfl, rfl⟩
theorem own_d5_10 : decode method_3_code 10 = .ok (.iload_n 2, 1) := by decide +kernel
theorem own_d5_11 : decode method_3_code 11 = .ok (.iconst 1, 1) := by decide +kernel
theorem own_d5_12 : decode method_3_code 12 = .ok (.if_icmp .ne 9, 3) := by decide +kernel
theorem own_d5_15 : decode method_3_code 15 = .ok (.iload_n 1, 1) := by decide +kernel
theorem own_d5_16 : decode method_3_code 16 = .ok (.sipush 255, 3) := by decide +kernel
theorem own_d5_19 : decode method_3_code 19 = .ok (.iand, 1) := by decide +kernel
theorem own_d5_20 : decode method_3_code 20 = .ok (.ireturn, 1) := by decide +kernel
theorem own_ef_own_rm5_1 (m : MethodId) (x0 : Int32) (x1 : Int32) : entryFrame m #[(.int x0), (.int x1), (.int (1 : Int32))] 3 = mkF m 0 #[.val (.int x0), .val (.int x1), .val (.int (1 : Int32))] [] := by first | (simp [entryFrame, mkF, argsToLocals, Value.category]; done) | rfl
def own_Q_own_rm5_1 (Z : State) (x0 : Int32) (x1 : Int32) (h0 : Heap) (n0 : Nat) (v : Option Value) (h : Heap) : Prop := v = some (.int (x1 &&& (255 : Int32))) ∧ h0 = h
set_option maxRecDepth 65536 in
set_option maxHeartbeats 40000000 in
theorem own_rm5_1 (l : Launch) (Z : State) (a0 : Array Value) (hw : ∀ d ∈ tables_1, d.before a0 Z = true) (ws : List Jvm.Cond) (x0 : Int32) (x1 : Int32)  (h0 : Heap) (n0 : Nat)   :
    own_Con l Z (⟨"com/example/deft_wiring/deftwiring/context/XmlScannerSkipPinLaw", "at", "(BBI)I"⟩ : MethodName) method_3_code 3 (some .int) ws ({ frames := 0, cells := 0, slots := 0, locals := 0 } : Room) #[(.int x0), (.int x1), (.int (1 : Int32))] h0 n0 (own_Q_own_rm5_1 Z x0 x1 h0 n0) := by
  refine own_body (plainFor_of_name own_pn2) ?_
  intro p e s m below meth c T0 hx hZ hby hml hown hnm hret hlk Y0
  replace hown : s.vm.findClass "com/example/deft_wiring/deftwiring/context/XmlScannerSkipPinLaw" = some m.cls := hown
  replace hnm : meth.name = "at" := hnm
  rw [own_ef_own_rm5_1 m x0 x1]
  show own_Ends _ _ _ _ (T0.setTop (mkF m 0 #[.val (.int x0), .val (.int x1), .val (.int (1 : Int32))] []))
  refine own_st (fun t_ => XS.iloadN (own_here Y0) hx rfl (hb hby own_d5_0) rfl) ?_
  show own_Ends _ _ _ _ (T0.setTop (mkF m 1 #[.val (.int x0), .val (.int x1), .val (.int (1 : Int32))] [(.int (1 : Int32))]))
  refine own_st (fun t_ => XS.ifYes (own_here Y0) hx rfl (pc0 := 1) (pc' := 10) rfl (hb hby own_d5_1) rfl (XT.i0_ne_t (by decide)) (by decide) (by decide)) ?_
  show own_Ends _ _ _ _ (T0.setTop (mkF m 10 #[.val (.int x0), .val (.int x1), .val (.int (1 : Int32))] []))
  refine own_st (fun t_ => XS.iloadN (own_here Y0) hx rfl (hb hby own_d5_10) rfl) ?_
  show own_Ends _ _ _ _ (T0.setTop (mkF m 11 #[.val (.int x0), .val (.int x1), .val (.int (1 : Int32))] [(.int (1 : Int32))]))
  refine own_st (fun t_ => XS.iconst (own_here Y0) hx rfl (hb hby own_d5_11) ) ?_
  show own_Ends _ _ _ _ (T0.setTop (mkF m 12 #[.val (.int x0), .val (.int x1), .val (.int (1 : Int32))] [(.int (1 : Int32)), (.int (1 : Int32))]))
  refine own_st (fun t_ => XS.icmpNo (own_here Y0) hx rfl (hb hby own_d5_12) rfl (XT.ii_ne_f (by decide))) ?_
  show own_Ends _ _ _ _ (T0.setTop (mkF m 15 #[.val (.int x0), .val (.int x1), .val (.int (1 : Int32))] []))
  refine own_st (fun t_ => XS.iloadN (own_here Y0) hx rfl (hb hby own_d5_15) rfl) ?_
  show own_Ends _ _ _ _ (T0.setTop (mkF m 16 #[.val (.int x0), .val (.int x1), .val (.int (1 : Int32))] [(.int x1)]))
  refine own_st (fun t_ => XS.sipush (own_here Y0) hx rfl (hb hby own_d5_16) ) ?_
  show own_Ends _ _ _ _ (T0.setTop (mkF m 19 #[.val (.int x0), .val (.int x1), .val (.int (1 : Int32))] [(.int (255 : Int32)), (.int x1)]))
  refine own_st (fun t_ => XS.iand (own_here Y0) hx rfl (hb hby own_d5_19) rfl) ?_
  show own_Ends _ _ _ _ (T0.setTop (mkF m 20 #[.val (.int x0), .val (.int x1), .val (.int (1 : Int32))] [(.int (x1 &&& (255 : Int32)))]))
  refine own_retI Y0 hx hlk hret (hb hby own_d5_20) (by decide) (by decide) ?_
  exact ⟨rfl, rfl⟩
theorem own_d5_21 : decode method_3_code 21 = .ok (.iconst (-1), 1) := by decide +kernel
theorem own_d5_22 : decode method_3_code 22 = .ok (.ireturn, 1) := by decide +kernel
theorem own_ef_own_rm5_2 (m : MethodId) (x0 : Int32) (x1 : Int32) : entryFrame m #[(.int x0), (.int x1), (.int (2 : Int32))] 3 = mkF m 0 #[.val (.int x0), .val (.int x1), .val (.int (2 : Int32))] [] := by first | (simp [entryFrame, mkF, argsToLocals, Value.category]; done) | rfl
def own_Q_own_rm5_2 (Z : State) (x0 : Int32) (x1 : Int32) (h0 : Heap) (n0 : Nat) (v : Option Value) (h : Heap) : Prop := v = some (.int (-1 : Int32)) ∧ h0 = h
set_option maxRecDepth 65536 in
set_option maxHeartbeats 40000000 in
theorem own_rm5_2 (l : Launch) (Z : State) (a0 : Array Value) (hw : ∀ d ∈ tables_1, d.before a0 Z = true) (ws : List Jvm.Cond) (x0 : Int32) (x1 : Int32)  (h0 : Heap) (n0 : Nat)   :
    own_Con l Z (⟨"com/example/deft_wiring/deftwiring/context/XmlScannerSkipPinLaw", "at", "(BBI)I"⟩ : MethodName) method_3_code 3 (some .int) ws ({ frames := 0, cells := 0, slots := 0, locals := 0 } : Room) #[(.int x0), (.int x1), (.int (2 : Int32))] h0 n0 (own_Q_own_rm5_2 Z x0 x1 h0 n0) := by
  refine own_body (plainFor_of_name own_pn2) ?_
  intro p e s m below meth c T0 hx hZ hby hml hown hnm hret hlk Y0
  replace hown : s.vm.findClass "com/example/deft_wiring/deftwiring/context/XmlScannerSkipPinLaw" = some m.cls := hown
  replace hnm : meth.name = "at" := hnm
  rw [own_ef_own_rm5_2 m x0 x1]
  show own_Ends _ _ _ _ (T0.setTop (mkF m 0 #[.val (.int x0), .val (.int x1), .val (.int (2 : Int32))] []))
  refine own_st (fun t_ => XS.iloadN (own_here Y0) hx rfl (hb hby own_d5_0) rfl) ?_
  show own_Ends _ _ _ _ (T0.setTop (mkF m 1 #[.val (.int x0), .val (.int x1), .val (.int (2 : Int32))] [(.int (2 : Int32))]))
  refine own_st (fun t_ => XS.ifYes (own_here Y0) hx rfl (pc0 := 1) (pc' := 10) rfl (hb hby own_d5_1) rfl (XT.i0_ne_t (by decide)) (by decide) (by decide)) ?_
  show own_Ends _ _ _ _ (T0.setTop (mkF m 10 #[.val (.int x0), .val (.int x1), .val (.int (2 : Int32))] []))
  refine own_st (fun t_ => XS.iloadN (own_here Y0) hx rfl (hb hby own_d5_10) rfl) ?_
  show own_Ends _ _ _ _ (T0.setTop (mkF m 11 #[.val (.int x0), .val (.int x1), .val (.int (2 : Int32))] [(.int (2 : Int32))]))
  refine own_st (fun t_ => XS.iconst (own_here Y0) hx rfl (hb hby own_d5_11) ) ?_
  show own_Ends _ _ _ _ (T0.setTop (mkF m 12 #[.val (.int x0), .val (.int x1), .val (.int (2 : Int32))] [(.int (1 : Int32)), (.int (2 : Int32))]))
  refine own_st (fun t_ => XS.icmpYes (own_here Y0) hx rfl (pc0 := 12) (pc' := 21) rfl (hb hby own_d5_12) rfl (XT.ii_ne_t (by decide)) (by decide) (by decide)) ?_
  show own_Ends _ _ _ _ (T0.setTop (mkF m 21 #[.val (.int x0), .val (.int x1), .val (.int (2 : Int32))] []))
  refine own_st (fun t_ => XS.iconst (own_here Y0) hx rfl (hb hby own_d5_21) ) ?_
  show own_Ends _ _ _ _ (T0.setTop (mkF m 22 #[.val (.int x0), .val (.int x1), .val (.int (2 : Int32))] [(.int (-1 : Int32))]))
  refine own_retI Y0 hx hlk hret (hb hby own_d5_22) (by decide) (by decide) ?_
  exact ⟨rfl, rfl⟩
theorem own_d6_0 : decode prog_76_method_6_code 0 = .ok (.aload_n 0, 1) := by decide +kernel
theorem own_d6_1 : decode prog_76_method_6_code 1 = .ok (.getfield 33, 3) := by decide +kernel
theorem own_d6_4 : decode prog_76_method_6_code 4 = .ok (.aload_n 0, 1) := by decide +kernel
theorem own_d6_5 : decode prog_76_method_6_code 5 = .ok (.getfield 19, 3) := by decide +kernel
theorem own_d6_8 : decode prog_76_method_6_code 8 = .ok (.if_icmp .ge 28, 3) := by decide +kernel
theorem own_d6_11 : decode prog_76_method_6_code 11 = .ok (.aload_n 0, 1) := by decide +kernel
theorem own_d6_12 : decode prog_76_method_6_code 12 = .ok (.getfield 15, 3) := by decide +kernel
theorem own_d6_15 : decode prog_76_method_6_code 15 = .ok (.aload_n 0, 1) := by decide +kernel
theorem own_d6_16 : decode prog_76_method_6_code 16 = .ok (.getfield 33, 3) := by decide +kernel
theorem own_d6_19 : decode prog_76_method_6_code 19 = .ok (.baload, 1) := by decide +kernel
theorem own_d6_20 : decode prog_76_method_6_code 20 = .ok (.iload_n 1, 1) := by decide +kernel
theorem own_d6_21 : decode prog_76_method_6_code 21 = .ok (.if_icmp .ne 15, 3) := by decide +kernel
theorem own_d6_24 : decode prog_76_method_6_code 24 = .ok (.aload_n 0, 1) := by decide +kernel
theorem own_d6_25 : decode prog_76_method_6_code 25 = .ok (.dup, 1) := by decide +kernel
theorem own_d6_26 : decode prog_76_method_6_code 26 = .ok (.getfield 33, 3) := by decide +kernel
theorem own_d6_29 : decode prog_76_method_6_code 29 = .ok (.iconst 1, 1) := by decide +kernel
theorem own_d6_30 : decode prog_76_method_6_code 30 = .ok (.iadd, 1) := by decide +kernel
theorem own_d6_31 : decode prog_76_method_6_code 31 = .ok (.putfield 33, 3) := by decide +kernel
theorem own_d6_34 : decode prog_76_method_6_code 34 = .ok (.iconst 1, 1) := by decide +kernel
theorem own_d6_35 : decode prog_76_method_6_code 35 = .ok (.ireturn, 1) := by decide +kernel
theorem own_ef_own_rm6_y0 (m : MethodId) (r0 : Addr) (x1 : Int32) : entryFrame m #[(.ref r0), (.int x1)] 2 = mkF m 0 #[.val (.ref r0), .val (.int x1)] [] := by first | (simp [entryFrame, mkF, argsToLocals, Value.category]; done) | rfl
def own_Q_own_rm6_y0 (Z : State) (r0 ra : Addr) (h0 : Heap) (n0 : Nat) (v : Option Value) (h : Heap) : Prop := v = some (.int 1) ∧ Keep h0 h [r0] ∧ Fld Z h r0 "com/example/deft_wiring/deftwiring/context/XmlScanner" "bytes" "[B" (.ref ra) ∧ Fld Z h r0 "com/example/deft_wiring/deftwiring/context/XmlScanner" "end" "I" (.int 2) ∧ Fld Z h r0 "com/example/deft_wiring/deftwiring/context/XmlScanner" "pos" "I" (.int 1)
set_option maxRecDepth 65536 in
set_option maxHeartbeats 40000000 in
theorem own_rm6_y0 (l : Launch) (Z : State) (a0 : Array Value) (hw : ∀ d ∈ tables_1, d.before a0 Z = true) (ws : List Jvm.Cond) (r0 : Addr) (x1 : Int32) (ra : Addr) (u0 u1 : Int32) (h0 : Heap) (n0 : Nat)  (E : Exa Z h0 r0 "com/example/deft_wiring/deftwiring/context/XmlScanner") (FB : Fld Z h0 r0 "com/example/deft_wiring/deftwiring/context/XmlScanner" "bytes" "[B" (.ref ra)) (FE : Fld Z h0 r0 "com/example/deft_wiring/deftwiring/context/XmlScanner" "end" "I" (.int 2)) (FP : Fld Z h0 r0 "com/example/deft_wiring/deftwiring/context/XmlScanner" "pos" "I" (.int 0)) (A : own_A Z h0 ra .byte [(.int u0), (.int u1)]) (g : n0 ≤ r0) (hu : u0 = x1) :
    own_Con l Z (⟨"com/example/deft_wiring/deftwiring/context/XmlScanner", "skip", "(C)Z"⟩ : MethodName) prog_76_method_6_code 2 (some .boolean) ws ({ frames := 0, cells := 0, slots := 0, locals := 0 } : Room) #[(.ref r0), (.int x1)] h0 n0 (own_Q_own_rm6_y0 Z r0 ra h0 n0) := by
  refine own_body (plainFor_of_name own_pn1) ?_
  intro p e s m below meth c T0 hx hZ hby hml hown hnm hret hlk Y0
  replace hown : s.vm.findClass "com/example/deft_wiring/deftwiring/context/XmlScanner" = some m.cls := hown
  replace hnm : meth.name = "skip" := hnm
  rw [own_ef_own_rm6_y0 m r0 x1]
  show own_Ends _ _ _ _ (T0.setTop (mkF m 0 #[.val (.ref r0), .val (.int x1)] []))
  refine own_st (fun t_ => XS.aloadN (own_here Y0) hx rfl (hb hby own_d6_0) rfl rfl) ?_
  show own_Ends _ _ _ _ (T0.setTop (mkF m 1 #[.val (.ref r0), .val (.int x1)] [(.ref r0)]))
  refine own_getF Y0 hx hZ hown (host := "") (Or.inl (hw _ (List.mem_of_getElem? (i := 39) rfl))) Via.refl FP rfl rfl (hb hby own_d6_1) (fun T162 Y163 => ?_)
  show own_Ends _ _ _ _ (T162.setTop (mkF m 4 #[.val (.ref r0), .val (.int x1)] [(.int (0 : Int32))]))
  refine own_st (fun t_ => XS.aloadN (own_here Y163) hx rfl (hb hby own_d6_4) rfl rfl) ?_
  show own_Ends _ _ _ _ (T162.setTop (mkF m 5 #[.val (.ref r0), .val (.int x1)] [(.ref r0), (.int (0 : Int32))]))
  refine own_getF Y163 hx hZ hown (host := "") (Or.inl (hw _ (List.mem_of_getElem? (i := 31) rfl))) Via.refl FE rfl rfl (hb hby own_d6_5) (fun T164 Y165 => ?_)
  show own_Ends _ _ _ _ (T164.setTop (mkF m 8 #[.val (.ref r0), .val (.int x1)] [(.int (2 : Int32)), (.int (0 : Int32))]))
  refine own_st (fun t_ => XS.icmpNo (own_here Y165) hx rfl (hb hby own_d6_8) rfl (XT.ii_ge_f (by decide))) ?_
  show own_Ends _ _ _ _ (T164.setTop (mkF m 11 #[.val (.ref r0), .val (.int x1)] []))
  refine own_st (fun t_ => XS.aloadN (own_here Y165) hx rfl (hb hby own_d6_11) rfl rfl) ?_
  show own_Ends _ _ _ _ (T164.setTop (mkF m 12 #[.val (.ref r0), .val (.int x1)] [(.ref r0)]))
  refine own_getF Y165 hx hZ hown (host := "") (Or.inl (hw _ (List.mem_of_getElem? (i := 29) rfl))) Via.refl FB rfl rfl (hb hby own_d6_12) (fun T166 Y167 => ?_)
  show own_Ends _ _ _ _ (T166.setTop (mkF m 15 #[.val (.ref r0), .val (.int x1)] [(.ref ra)]))
  refine own_st (fun t_ => XS.aloadN (own_here Y167) hx rfl (hb hby own_d6_15) rfl rfl) ?_
  show own_Ends _ _ _ _ (T166.setTop (mkF m 16 #[.val (.ref r0), .val (.int x1)] [(.ref r0), (.ref ra)]))
  refine own_getF Y167 hx hZ hown (host := "") (Or.inl (hw _ (List.mem_of_getElem? (i := 39) rfl))) Via.refl FP rfl rfl (hb hby own_d6_16) (fun T168 Y169 => ?_)
  show own_Ends _ _ _ _ (T168.setTop (mkF m 19 #[.val (.ref r0), .val (.int x1)] [(.int (0 : Int32)), (.ref ra)]))
  refine own_ldB Y169 hx hZ A (i := 0) (by decide) (by decide) (Nat.le_of_ble_eq_true rfl) (v := (.int u0)) rfl rfl rfl (hb hby own_d6_19) ?_
  show own_Ends _ _ _ _ (T168.setTop (mkF m 20 #[.val (.ref r0), .val (.int x1)] [(.int u0)]))
  refine own_st (fun t_ => XS.iloadN (own_here Y169) hx rfl (hb hby own_d6_20) rfl) ?_
  show own_Ends _ _ _ _ (T168.setTop (mkF m 21 #[.val (.ref r0), .val (.int x1)] [(.int x1), (.int u0)]))
  refine own_st (fun t_ => XS.icmpNo (own_here Y169) hx rfl (hb hby own_d6_21) rfl (XT.ii_ne_f hu)) ?_
  show own_Ends _ _ _ _ (T168.setTop (mkF m 24 #[.val (.ref r0), .val (.int x1)] []))
  refine own_st (fun t_ => XS.aloadN (own_here Y169) hx rfl (hb hby own_d6_24) rfl rfl) ?_
  show own_Ends _ _ _ _ (T168.setTop (mkF m 25 #[.val (.ref r0), .val (.int x1)] [(.ref r0)]))
  refine own_st (fun t_ => XS.dup (own_here Y169) hx rfl (hb hby own_d6_25) rfl rfl) ?_
  show own_Ends _ _ _ _ (T168.setTop (mkF m 26 #[.val (.ref r0), .val (.int x1)] [(.ref r0), (.ref r0)]))
  refine own_getF Y169 hx hZ hown (host := "") (Or.inl (hw _ (List.mem_of_getElem? (i := 39) rfl))) Via.refl FP rfl rfl (hb hby own_d6_26) (fun T170 Y171 => ?_)
  show own_Ends _ _ _ _ (T170.setTop (mkF m 29 #[.val (.ref r0), .val (.int x1)] [(.int (0 : Int32)), (.ref r0)]))
  refine own_st (fun t_ => XS.iconst (own_here Y171) hx rfl (hb hby own_d6_29) ) ?_
  show own_Ends _ _ _ _ (T170.setTop (mkF m 30 #[.val (.ref r0), .val (.int x1)] [(.int (1 : Int32)), (.int (0 : Int32)), (.ref r0)]))
  refine own_st (fun t_ => XS.iadd (own_here Y171) hx rfl (hb hby own_d6_30) rfl) ?_
  show own_Ends _ _ _ _ (T170.setTop (mkF m 31 #[.val (.ref r0), .val (.int x1)] [(.int (1 : Int32)), (.ref r0)]))
  refine own_putF Y171 hx hZ hown (host := "") (Or.inl (hw _ (List.mem_of_getElem? (i := 39) rfl))) Via.refl FP E (Or.inl (hw _ (List.mem_of_getElem? (i := 40) rfl))) (hw _ (List.mem_of_getElem? (i := 3) rfl)) g (ty := .int) (by decide) rfl rfl rfl rfl (hb hby own_d6_31) (fun T172 h174 Y173 W175 F176 => ?_)
  show own_Ends _ _ _ _ (T172.setTop (mkF m 34 #[.val (.ref r0), .val (.int x1)] []))
  refine own_st (fun t_ => XS.iconst (own_here Y173) hx rfl (hb hby own_d6_34) ) ?_
  show own_Ends _ _ _ _ (T172.setTop (mkF m 35 #[.val (.ref r0), .val (.int x1)] [(.int (1 : Int32))]))
  have K177 : Keep h0 h174 [r0] := (Keep.refl h0 [r0]).wr W175 (Or.inl (List.mem_of_getElem? (i := 0) rfl))
  have f178 : Fld Z h174 r0 "com/example/deft_wiring/deftwiring/context/XmlScanner" "bytes" "[B" (.ref ra) := FB.other W175 (Or.inr (slot_ne (Or.inr (hw _ (List.mem_of_getElem? (i := 30) rfl))) (Or.inl (hw _ (List.mem_of_getElem? (i := 40) rfl))) (by decide) (t := (.array .byte)) (t' := .int) (by decide) (by decide)))
  have f179 : Fld Z h174 r0 "com/example/deft_wiring/deftwiring/context/XmlScanner" "end" "I" (.int (2 : Int32)) := FE.other W175 (Or.inr (slot_ne (Or.inr (hw _ (List.mem_of_getElem? (i := 32) rfl))) (Or.inl (hw _ (List.mem_of_getElem? (i := 40) rfl))) (by decide) (t := .int) (t' := .int) (by decide) (by decide)))
  refine own_retN Y173 hx hlk (t := .boolean) hret (by simp) (hb hby own_d6_35) (by decide) (by decide) ?_
  exact ⟨rfl, K177, f178, f179, F176⟩
theorem own_d6_36 : decode prog_76_method_6_code 36 = .ok (.iconst 0, 1) := by decide +kernel
theorem own_d6_37 : decode prog_76_method_6_code 37 = .ok (.ireturn, 1) := by decide +kernel
theorem own_ef_own_rm6_n0 (m : MethodId) (r0 : Addr) (x1 : Int32) : entryFrame m #[(.ref r0), (.int x1)] 2 = mkF m 0 #[.val (.ref r0), .val (.int x1)] [] := by first | (simp [entryFrame, mkF, argsToLocals, Value.category]; done) | rfl
def own_Q_own_rm6_n0 (Z : State)  (h0 : Heap) (n0 : Nat) (v : Option Value) (h : Heap) : Prop := v = some (.int 0) ∧ h0 = h
set_option maxRecDepth 65536 in
set_option maxHeartbeats 40000000 in
theorem own_rm6_n0 (l : Launch) (Z : State) (a0 : Array Value) (hw : ∀ d ∈ tables_1, d.before a0 Z = true) (ws : List Jvm.Cond) (r0 : Addr) (x1 : Int32) (ra : Addr) (u0 u1 : Int32) (h0 : Heap) (n0 : Nat)  (E : Exa Z h0 r0 "com/example/deft_wiring/deftwiring/context/XmlScanner") (FB : Fld Z h0 r0 "com/example/deft_wiring/deftwiring/context/XmlScanner" "bytes" "[B" (.ref ra)) (FE : Fld Z h0 r0 "com/example/deft_wiring/deftwiring/context/XmlScanner" "end" "I" (.int 2)) (FP : Fld Z h0 r0 "com/example/deft_wiring/deftwiring/context/XmlScanner" "pos" "I" (.int 0)) (A : own_A Z h0 ra .byte [(.int u0), (.int u1)]) (hu : ¬ u0 = x1) :
    own_Con l Z (⟨"com/example/deft_wiring/deftwiring/context/XmlScanner", "skip", "(C)Z"⟩ : MethodName) prog_76_method_6_code 2 (some .boolean) ws ({ frames := 0, cells := 0, slots := 0, locals := 0 } : Room) #[(.ref r0), (.int x1)] h0 n0 (own_Q_own_rm6_n0 Z  h0 n0) := by
  refine own_body (plainFor_of_name own_pn1) ?_
  intro p e s m below meth c T0 hx hZ hby hml hown hnm hret hlk Y0
  replace hown : s.vm.findClass "com/example/deft_wiring/deftwiring/context/XmlScanner" = some m.cls := hown
  replace hnm : meth.name = "skip" := hnm
  rw [own_ef_own_rm6_n0 m r0 x1]
  show own_Ends _ _ _ _ (T0.setTop (mkF m 0 #[.val (.ref r0), .val (.int x1)] []))
  refine own_st (fun t_ => XS.aloadN (own_here Y0) hx rfl (hb hby own_d6_0) rfl rfl) ?_
  show own_Ends _ _ _ _ (T0.setTop (mkF m 1 #[.val (.ref r0), .val (.int x1)] [(.ref r0)]))
  refine own_getF Y0 hx hZ hown (host := "") (Or.inl (hw _ (List.mem_of_getElem? (i := 39) rfl))) Via.refl FP rfl rfl (hb hby own_d6_1) (fun T180 Y181 => ?_)
  show own_Ends _ _ _ _ (T180.setTop (mkF m 4 #[.val (.ref r0), .val (.int x1)] [(.int (0 : Int32))]))
  refine own_st (fun t_ => XS.aloadN (own_here Y181) hx rfl (hb hby own_d6_4) rfl rfl) ?_
  show own_Ends _ _ _ _ (T180.setTop (mkF m 5 #[.val (.ref r0), .val (.int x1)] [(.ref r0), (.int (0 : Int32))]))
  refine own_getF Y181 hx hZ hown (host := "") (Or.inl (hw _ (List.mem_of_getElem? (i := 31) rfl))) Via.refl FE rfl rfl (hb hby own_d6_5) (fun T182 Y183 => ?_)
  show own_Ends _ _ _ _ (T182.setTop (mkF m 8 #[.val (.ref r0), .val (.int x1)] [(.int (2 : Int32)), (.int (0 : Int32))]))
  refine own_st (fun t_ => XS.icmpNo (own_here Y183) hx rfl (hb hby own_d6_8) rfl (XT.ii_ge_f (by decide))) ?_
  show own_Ends _ _ _ _ (T182.setTop (mkF m 11 #[.val (.ref r0), .val (.int x1)] []))
  refine own_st (fun t_ => XS.aloadN (own_here Y183) hx rfl (hb hby own_d6_11) rfl rfl) ?_
  show own_Ends _ _ _ _ (T182.setTop (mkF m 12 #[.val (.ref r0), .val (.int x1)] [(.ref r0)]))
  refine own_getF Y183 hx hZ hown (host := "") (Or.inl (hw _ (List.mem_of_getElem? (i := 29) rfl))) Via.refl FB rfl rfl (hb hby own_d6_12) (fun T184 Y185 => ?_)
  show own_Ends _ _ _ _ (T184.setTop (mkF m 15 #[.val (.ref r0), .val (.int x1)] [(.ref ra)]))
  refine own_st (fun t_ => XS.aloadN (own_here Y185) hx rfl (hb hby own_d6_15) rfl rfl) ?_
  show own_Ends _ _ _ _ (T184.setTop (mkF m 16 #[.val (.ref r0), .val (.int x1)] [(.ref r0), (.ref ra)]))
  refine own_getF Y185 hx hZ hown (host := "") (Or.inl (hw _ (List.mem_of_getElem? (i := 39) rfl))) Via.refl FP rfl rfl (hb hby own_d6_16) (fun T186 Y187 => ?_)
  show own_Ends _ _ _ _ (T186.setTop (mkF m 19 #[.val (.ref r0), .val (.int x1)] [(.int (0 : Int32)), (.ref ra)]))
  refine own_ldB Y187 hx hZ A (i := 0) (by decide) (by decide) (Nat.le_of_ble_eq_true rfl) (v := (.int u0)) rfl rfl rfl (hb hby own_d6_19) ?_
  show own_Ends _ _ _ _ (T186.setTop (mkF m 20 #[.val (.ref r0), .val (.int x1)] [(.int u0)]))
  refine own_st (fun t_ => XS.iloadN (own_here Y187) hx rfl (hb hby own_d6_20) rfl) ?_
  show own_Ends _ _ _ _ (T186.setTop (mkF m 21 #[.val (.ref r0), .val (.int x1)] [(.int x1), (.int u0)]))
  refine own_st (fun t_ => XS.icmpYes (own_here Y187) hx rfl (pc0 := 21) (pc' := 36) rfl (hb hby own_d6_21) rfl (XT.ii_ne_t hu) (by decide) (by decide)) ?_
  show own_Ends _ _ _ _ (T186.setTop (mkF m 36 #[.val (.ref r0), .val (.int x1)] []))
  refine own_st (fun t_ => XS.iconst (own_here Y187) hx rfl (hb hby own_d6_36) ) ?_
  show own_Ends _ _ _ _ (T186.setTop (mkF m 37 #[.val (.ref r0), .val (.int x1)] [(.int (0 : Int32))]))
  refine own_retN Y187 hx hlk (t := .boolean) hret (by simp) (hb hby own_d6_37) (by decide) (by decide) ?_
  exact ⟨rfl, rfl⟩
theorem own_d7_0 : decode prog_76_method_5_code 0 = .ok (.aload_n 0, 1) := by decide +kernel
theorem own_d7_1 : decode prog_76_method_5_code 1 = .ok (.getfield 33, 3) := by decide +kernel
theorem own_d7_4 : decode prog_76_method_5_code 4 = .ok (.aload_n 0, 1) := by decide +kernel
theorem own_d7_5 : decode prog_76_method_5_code 5 = .ok (.getfield 19, 3) := by decide +kernel
theorem own_d7_8 : decode prog_76_method_5_code 8 = .ok (.if_icmp .ge 19, 3) := by decide +kernel
theorem own_d7_11 : decode prog_76_method_5_code 11 = .ok (.aload_n 0, 1) := by decide +kernel
theorem own_d7_12 : decode prog_76_method_5_code 12 = .ok (.getfield 15, 3) := by decide +kernel
theorem own_d7_15 : decode prog_76_method_5_code 15 = .ok (.aload_n 0, 1) := by decide +kernel
theorem own_d7_16 : decode prog_76_method_5_code 16 = .ok (.getfield 33, 3) := by decide +kernel
theorem own_d7_19 : decode prog_76_method_5_code 19 = .ok (.baload, 1) := by decide +kernel
theorem own_d7_20 : decode prog_76_method_5_code 20 = .ok (.sipush 255, 3) := by decide +kernel
theorem own_d7_23 : decode prog_76_method_5_code 23 = .ok (.iand, 1) := by decide +kernel
theorem own_d7_24 : decode prog_76_method_5_code 24 = .ok (.goto 4, 3) := by decide +kernel
theorem own_d7_28 : decode prog_76_method_5_code 28 = .ok (.ireturn, 1) := by decide +kernel
theorem own_ef_own_rm7_0 (m : MethodId) (r0 : Addr) : entryFrame m #[(.ref r0)] 1 = mkF m 0 #[.val (.ref r0)] [] := by first | (simp [entryFrame, mkF, argsToLocals, Value.category]; done) | rfl
def own_Q_own_rm7_0 (Z : State) (u0 u1 : Int32) (h0 : Heap) (n0 : Nat) (v : Option Value) (h : Heap) : Prop := v = some (.int (u0 &&& (255 : Int32))) ∧ h0 = h
set_option maxRecDepth 65536 in
set_option maxHeartbeats 40000000 in
theorem own_rm7_0 (l : Launch) (Z : State) (a0 : Array Value) (hw : ∀ d ∈ tables_1, d.before a0 Z = true) (ws : List Jvm.Cond) (r0 : Addr) (ra : Addr) (u0 u1 : Int32) (h0 : Heap) (n0 : Nat)  (E : Exa Z h0 r0 "com/example/deft_wiring/deftwiring/context/XmlScanner") (FB : Fld Z h0 r0 "com/example/deft_wiring/deftwiring/context/XmlScanner" "bytes" "[B" (.ref ra)) (FE : Fld Z h0 r0 "com/example/deft_wiring/deftwiring/context/XmlScanner" "end" "I" (.int 2)) (FP : Fld Z h0 r0 "com/example/deft_wiring/deftwiring/context/XmlScanner" "pos" "I" (.int 0)) (A : own_A Z h0 ra .byte [(.int u0), (.int u1)]) :
    own_Con l Z (⟨"com/example/deft_wiring/deftwiring/context/XmlScanner", "peek", "()I"⟩ : MethodName) prog_76_method_5_code 1 (some .int) ws ({ frames := 0, cells := 0, slots := 0, locals := 0 } : Room) #[(.ref r0)] h0 n0 (own_Q_own_rm7_0 Z u0 u1 h0 n0) := by
  refine own_body (plainFor_of_name own_pn1) ?_
  intro p e s m below meth c T0 hx hZ hby hml hown hnm hret hlk Y0
  replace hown : s.vm.findClass "com/example/deft_wiring/deftwiring/context/XmlScanner" = some m.cls := hown
  replace hnm : meth.name = "peek" := hnm
  rw [own_ef_own_rm7_0 m r0]
  show own_Ends _ _ _ _ (T0.setTop (mkF m 0 #[.val (.ref r0)] []))
  refine own_st (fun t_ => XS.aloadN (own_here Y0) hx rfl (hb hby own_d7_0) rfl rfl) ?_
  show own_Ends _ _ _ _ (T0.setTop (mkF m 1 #[.val (.ref r0)] [(.ref r0)]))
  refine own_getF Y0 hx hZ hown (host := "") (Or.inl (hw _ (List.mem_of_getElem? (i := 39) rfl))) Via.refl FP rfl rfl (hb hby own_d7_1) (fun T188 Y189 => ?_)
  show own_Ends _ _ _ _ (T188.setTop (mkF m 4 #[.val (.ref r0)] [(.int (0 : Int32))]))
  refine own_st (fun t_ => XS.aloadN (own_here Y189) hx rfl (hb hby own_d7_4) rfl rfl) ?_
  show own_Ends _ _ _ _ (T188.setTop (mkF m 5 #[.val (.ref r0)] [(.ref r0), (.int (0 : Int32))]))
  refine own_getF Y189 hx hZ hown (host := "") (Or.inl (hw _ (List.mem_of_getElem? (i := 31) rfl))) Via.refl FE rfl rfl (hb hby own_d7_5) (fun T190 Y191 => ?_)
  show own_Ends _ _ _ _ (T190.setTop (mkF m 8 #[.val (.ref r0)] [(.int (2 : Int32)), (.int (0 : Int32))]))
  refine own_st (fun t_ => XS.icmpNo (own_here Y191) hx rfl (hb hby own_d7_8) rfl (XT.ii_ge_f (by decide))) ?_
  show own_Ends _ _ _ _ (T190.setTop (mkF m 11 #[.val (.ref r0)] []))
  refine own_st (fun t_ => XS.aloadN (own_here Y191) hx rfl (hb hby own_d7_11) rfl rfl) ?_
  show own_Ends _ _ _ _ (T190.setTop (mkF m 12 #[.val (.ref r0)] [(.ref r0)]))
  refine own_getF Y191 hx hZ hown (host := "") (Or.inl (hw _ (List.mem_of_getElem? (i := 29) rfl))) Via.refl FB rfl rfl (hb hby own_d7_12) (fun T192 Y193 => ?_)
  show own_Ends _ _ _ _ (T192.setTop (mkF m 15 #[.val (.ref r0)] [(.ref ra)]))
  refine own_st (fun t_ => XS.aloadN (own_here Y193) hx rfl (hb hby own_d7_15) rfl rfl) ?_
  show own_Ends _ _ _ _ (T192.setTop (mkF m 16 #[.val (.ref r0)] [(.ref r0), (.ref ra)]))
  refine own_getF Y193 hx hZ hown (host := "") (Or.inl (hw _ (List.mem_of_getElem? (i := 39) rfl))) Via.refl FP rfl rfl (hb hby own_d7_16) (fun T194 Y195 => ?_)
  show own_Ends _ _ _ _ (T194.setTop (mkF m 19 #[.val (.ref r0)] [(.int (0 : Int32)), (.ref ra)]))
  refine own_ldB Y195 hx hZ A (i := 0) (by decide) (by decide) (Nat.le_of_ble_eq_true rfl) (v := (.int u0)) rfl rfl rfl (hb hby own_d7_19) ?_
  show own_Ends _ _ _ _ (T194.setTop (mkF m 20 #[.val (.ref r0)] [(.int u0)]))
  refine own_st (fun t_ => XS.sipush (own_here Y195) hx rfl (hb hby own_d7_20) ) ?_
  show own_Ends _ _ _ _ (T194.setTop (mkF m 23 #[.val (.ref r0)] [(.int (255 : Int32)), (.int u0)]))
  refine own_st (fun t_ => XS.iand (own_here Y195) hx rfl (hb hby own_d7_23) rfl) ?_
  show own_Ends _ _ _ _ (T194.setTop (mkF m 24 #[.val (.ref r0)] [(.int (u0 &&& (255 : Int32)))]))
  refine own_st (fun t_ => XS.goto (own_here Y195) hx rfl (pc0 := 24) (pc' := 28) rfl (hb hby own_d7_24) (by decide) (by decide)) ?_
  show own_Ends _ _ _ _ (T194.setTop (mkF m 28 #[.val (.ref r0)] [(.int (u0 &&& (255 : Int32)))]))
  refine own_retI Y195 hx hlk hret (hb hby own_d7_28) (by decide) (by decide) ?_
  exact ⟨rfl, rfl⟩
theorem own_d8_0 : decode prog_76_method_4_code 0 = .ok (.aload_n 0, 1) := by decide +kernel
theorem own_d8_1 : decode prog_76_method_4_code 1 = .ok (.getfield 33, 3) := by decide +kernel
theorem own_d8_4 : decode prog_76_method_4_code 4 = .ok (.aload_n 0, 1) := by decide +kernel
theorem own_d8_5 : decode prog_76_method_4_code 5 = .ok (.getfield 19, 3) := by decide +kernel
theorem own_d8_8 : decode prog_76_method_4_code 8 = .ok (.if_icmp .lt 7, 3) := by decide +kernel
theorem own_d8_15 : decode prog_76_method_4_code 15 = .ok (.iconst 0, 1) := by decide +kernel
theorem own_d8_16 : decode prog_76_method_4_code 16 = .ok (.ireturn, 1) := by decide +kernel
theorem own_ef_own_rm8_0 (m : MethodId) (r0 : Addr) : entryFrame m #[(.ref r0)] 1 = mkF m 0 #[.val (.ref r0)] [] := by first | (simp [entryFrame, mkF, argsToLocals, Value.category]; done) | rfl
def own_Q_own_rm8_0 (Z : State)  (h0 : Heap) (n0 : Nat) (v : Option Value) (h : Heap) : Prop := v = some (.int 0) ∧ h0 = h
set_option maxRecDepth 65536 in
set_option maxHeartbeats 40000000 in
theorem own_rm8_0 (l : Launch) (Z : State) (a0 : Array Value) (hw : ∀ d ∈ tables_1, d.before a0 Z = true) (ws : List Jvm.Cond) (r0 : Addr) (ra : Addr) (u0 u1 : Int32) (h0 : Heap) (n0 : Nat)  (E : Exa Z h0 r0 "com/example/deft_wiring/deftwiring/context/XmlScanner") (FB : Fld Z h0 r0 "com/example/deft_wiring/deftwiring/context/XmlScanner" "bytes" "[B" (.ref ra)) (FE : Fld Z h0 r0 "com/example/deft_wiring/deftwiring/context/XmlScanner" "end" "I" (.int 2)) (FP : Fld Z h0 r0 "com/example/deft_wiring/deftwiring/context/XmlScanner" "pos" "I" (.int 0)) (A : own_A Z h0 ra .byte [(.int u0), (.int u1)]) :
    own_Con l Z (⟨"com/example/deft_wiring/deftwiring/context/XmlScanner", "atEnd", "()Z"⟩ : MethodName) prog_76_method_4_code 1 (some .boolean) ws ({ frames := 0, cells := 0, slots := 0, locals := 0 } : Room) #[(.ref r0)] h0 n0 (own_Q_own_rm8_0 Z  h0 n0) := by
  refine own_body (plainFor_of_name own_pn1) ?_
  intro p e s m below meth c T0 hx hZ hby hml hown hnm hret hlk Y0
  replace hown : s.vm.findClass "com/example/deft_wiring/deftwiring/context/XmlScanner" = some m.cls := hown
  replace hnm : meth.name = "atEnd" := hnm
  rw [own_ef_own_rm8_0 m r0]
  show own_Ends _ _ _ _ (T0.setTop (mkF m 0 #[.val (.ref r0)] []))
  refine own_st (fun t_ => XS.aloadN (own_here Y0) hx rfl (hb hby own_d8_0) rfl rfl) ?_
  show own_Ends _ _ _ _ (T0.setTop (mkF m 1 #[.val (.ref r0)] [(.ref r0)]))
  refine own_getF Y0 hx hZ hown (host := "") (Or.inl (hw _ (List.mem_of_getElem? (i := 39) rfl))) Via.refl FP rfl rfl (hb hby own_d8_1) (fun T196 Y197 => ?_)
  show own_Ends _ _ _ _ (T196.setTop (mkF m 4 #[.val (.ref r0)] [(.int (0 : Int32))]))
  refine own_st (fun t_ => XS.aloadN (own_here Y197) hx rfl (hb hby own_d8_4) rfl rfl) ?_
  show own_Ends _ _ _ _ (T196.setTop (mkF m 5 #[.val (.ref r0)] [(.ref r0), (.int (0 : Int32))]))
  refine own_getF Y197 hx hZ hown (host := "") (Or.inl (hw _ (List.mem_of_getElem? (i := 31) rfl))) Via.refl FE rfl rfl (hb hby own_d8_5) (fun T198 Y199 => ?_)
  show own_Ends _ _ _ _ (T198.setTop (mkF m 8 #[.val (.ref r0)] [(.int (2 : Int32)), (.int (0 : Int32))]))
  refine own_st (fun t_ => XS.icmpYes (own_here Y199) hx rfl (pc0 := 8) (pc' := 15) rfl (hb hby own_d8_8) rfl (XT.ii_lt_t (by decide)) (by decide) (by decide)) ?_
  show own_Ends _ _ _ _ (T198.setTop (mkF m 15 #[.val (.ref r0)] []))
  refine own_st (fun t_ => XS.iconst (own_here Y199) hx rfl (hb hby own_d8_15) ) ?_
  show own_Ends _ _ _ _ (T198.setTop (mkF m 16 #[.val (.ref r0)] [(.int (0 : Int32))]))
  refine own_retN Y199 hx hlk (t := .boolean) hret (by simp) (hb hby own_d8_16) (by decide) (by decide) ?_
  exact ⟨rfl, rfl⟩
theorem own_ef_own_rm6_y1 (m : MethodId) (r0 : Addr) (x1 : Int32) : entryFrame m #[(.ref r0), (.int x1)] 2 = mkF m 0 #[.val (.ref r0), .val (.int x1)] [] := by first | (simp [entryFrame, mkF, argsToLocals, Value.category]; done) | rfl
def own_Q_own_rm6_y1 (Z : State) (r0 ra : Addr) (h0 : Heap) (n0 : Nat) (v : Option Value) (h : Heap) : Prop := v = some (.int 1) ∧ Keep h0 h [r0] ∧ Fld Z h r0 "com/example/deft_wiring/deftwiring/context/XmlScanner" "bytes" "[B" (.ref ra) ∧ Fld Z h r0 "com/example/deft_wiring/deftwiring/context/XmlScanner" "end" "I" (.int 2) ∧ Fld Z h r0 "com/example/deft_wiring/deftwiring/context/XmlScanner" "pos" "I" (.int 2)
set_option maxRecDepth 65536 in
set_option maxHeartbeats 40000000 in
theorem own_rm6_y1 (l : Launch) (Z : State) (a0 : Array Value) (hw : ∀ d ∈ tables_1, d.before a0 Z = true) (ws : List Jvm.Cond) (r0 : Addr) (x1 : Int32) (ra : Addr) (u0 u1 : Int32) (h0 : Heap) (n0 : Nat)  (E : Exa Z h0 r0 "com/example/deft_wiring/deftwiring/context/XmlScanner") (FB : Fld Z h0 r0 "com/example/deft_wiring/deftwiring/context/XmlScanner" "bytes" "[B" (.ref ra)) (FE : Fld Z h0 r0 "com/example/deft_wiring/deftwiring/context/XmlScanner" "end" "I" (.int 2)) (FP : Fld Z h0 r0 "com/example/deft_wiring/deftwiring/context/XmlScanner" "pos" "I" (.int 1)) (A : own_A Z h0 ra .byte [(.int u0), (.int u1)]) (g : n0 ≤ r0) (hu : u1 = x1) :
    own_Con l Z (⟨"com/example/deft_wiring/deftwiring/context/XmlScanner", "skip", "(C)Z"⟩ : MethodName) prog_76_method_6_code 2 (some .boolean) ws ({ frames := 0, cells := 0, slots := 0, locals := 0 } : Room) #[(.ref r0), (.int x1)] h0 n0 (own_Q_own_rm6_y1 Z r0 ra h0 n0) := by
  refine own_body (plainFor_of_name own_pn1) ?_
  intro p e s m below meth c T0 hx hZ hby hml hown hnm hret hlk Y0
  replace hown : s.vm.findClass "com/example/deft_wiring/deftwiring/context/XmlScanner" = some m.cls := hown
  replace hnm : meth.name = "skip" := hnm
  rw [own_ef_own_rm6_y1 m r0 x1]
  show own_Ends _ _ _ _ (T0.setTop (mkF m 0 #[.val (.ref r0), .val (.int x1)] []))
  refine own_st (fun t_ => XS.aloadN (own_here Y0) hx rfl (hb hby own_d6_0) rfl rfl) ?_
  show own_Ends _ _ _ _ (T0.setTop (mkF m 1 #[.val (.ref r0), .val (.int x1)] [(.ref r0)]))
  refine own_getF Y0 hx hZ hown (host := "") (Or.inl (hw _ (List.mem_of_getElem? (i := 39) rfl))) Via.refl FP rfl rfl (hb hby own_d6_1) (fun T200 Y201 => ?_)
  show own_Ends _ _ _ _ (T200.setTop (mkF m 4 #[.val (.ref r0), .val (.int x1)] [(.int (1 : Int32))]))
  refine own_st (fun t_ => XS.aloadN (own_here Y201) hx rfl (hb hby own_d6_4) rfl rfl) ?_
  show own_Ends _ _ _ _ (T200.setTop (mkF m 5 #[.val (.ref r0), .val (.int x1)] [(.ref r0), (.int (1 : Int32))]))
  refine own_getF Y201 hx hZ hown (host := "") (Or.inl (hw _ (List.mem_of_getElem? (i := 31) rfl))) Via.refl FE rfl rfl (hb hby own_d6_5) (fun T202 Y203 => ?_)
  show own_Ends _ _ _ _ (T202.setTop (mkF m 8 #[.val (.ref r0), .val (.int x1)] [(.int (2 : Int32)), (.int (1 : Int32))]))
  refine own_st (fun t_ => XS.icmpNo (own_here Y203) hx rfl (hb hby own_d6_8) rfl (XT.ii_ge_f (by decide))) ?_
  show own_Ends _ _ _ _ (T202.setTop (mkF m 11 #[.val (.ref r0), .val (.int x1)] []))
  refine own_st (fun t_ => XS.aloadN (own_here Y203) hx rfl (hb hby own_d6_11) rfl rfl) ?_
  show own_Ends _ _ _ _ (T202.setTop (mkF m 12 #[.val (.ref r0), .val (.int x1)] [(.ref r0)]))
  refine own_getF Y203 hx hZ hown (host := "") (Or.inl (hw _ (List.mem_of_getElem? (i := 29) rfl))) Via.refl FB rfl rfl (hb hby own_d6_12) (fun T204 Y205 => ?_)
  show own_Ends _ _ _ _ (T204.setTop (mkF m 15 #[.val (.ref r0), .val (.int x1)] [(.ref ra)]))
  refine own_st (fun t_ => XS.aloadN (own_here Y205) hx rfl (hb hby own_d6_15) rfl rfl) ?_
  show own_Ends _ _ _ _ (T204.setTop (mkF m 16 #[.val (.ref r0), .val (.int x1)] [(.ref r0), (.ref ra)]))
  refine own_getF Y205 hx hZ hown (host := "") (Or.inl (hw _ (List.mem_of_getElem? (i := 39) rfl))) Via.refl FP rfl rfl (hb hby own_d6_16) (fun T206 Y207 => ?_)
  show own_Ends _ _ _ _ (T206.setTop (mkF m 19 #[.val (.ref r0), .val (.int x1)] [(.int (1 : Int32)), (.ref ra)]))
  refine own_ldB Y207 hx hZ A (i := 1) (by decide) (by decide) (Nat.le_of_ble_eq_true rfl) (v := (.int u1)) rfl rfl rfl (hb hby own_d6_19) ?_
  show own_Ends _ _ _ _ (T206.setTop (mkF m 20 #[.val (.ref r0), .val (.int x1)] [(.int u1)]))
  refine own_st (fun t_ => XS.iloadN (own_here Y207) hx rfl (hb hby own_d6_20) rfl) ?_
  show own_Ends _ _ _ _ (T206.setTop (mkF m 21 #[.val (.ref r0), .val (.int x1)] [(.int x1), (.int u1)]))
  refine own_st (fun t_ => XS.icmpNo (own_here Y207) hx rfl (hb hby own_d6_21) rfl (XT.ii_ne_f hu)) ?_
  show own_Ends _ _ _ _ (T206.setTop (mkF m 24 #[.val (.ref r0), .val (.int x1)] []))
  refine own_st (fun t_ => XS.aloadN (own_here Y207) hx rfl (hb hby own_d6_24) rfl rfl) ?_
  show own_Ends _ _ _ _ (T206.setTop (mkF m 25 #[.val (.ref r0), .val (.int x1)] [(.ref r0)]))
  refine own_st (fun t_ => XS.dup (own_here Y207) hx rfl (hb hby own_d6_25) rfl rfl) ?_
  show own_Ends _ _ _ _ (T206.setTop (mkF m 26 #[.val (.ref r0), .val (.int x1)] [(.ref r0), (.ref r0)]))
  refine own_getF Y207 hx hZ hown (host := "") (Or.inl (hw _ (List.mem_of_getElem? (i := 39) rfl))) Via.refl FP rfl rfl (hb hby own_d6_26) (fun T208 Y209 => ?_)
  show own_Ends _ _ _ _ (T208.setTop (mkF m 29 #[.val (.ref r0), .val (.int x1)] [(.int (1 : Int32)), (.ref r0)]))
  refine own_st (fun t_ => XS.iconst (own_here Y209) hx rfl (hb hby own_d6_29) ) ?_
  show own_Ends _ _ _ _ (T208.setTop (mkF m 30 #[.val (.ref r0), .val (.int x1)] [(.int (1 : Int32)), (.int (1 : Int32)), (.ref r0)]))
  refine own_st (fun t_ => XS.iadd (own_here Y209) hx rfl (hb hby own_d6_30) rfl) ?_
  show own_Ends _ _ _ _ (T208.setTop (mkF m 31 #[.val (.ref r0), .val (.int x1)] [(.int (2 : Int32)), (.ref r0)]))
  refine own_putF Y209 hx hZ hown (host := "") (Or.inl (hw _ (List.mem_of_getElem? (i := 39) rfl))) Via.refl FP E (Or.inl (hw _ (List.mem_of_getElem? (i := 40) rfl))) (hw _ (List.mem_of_getElem? (i := 3) rfl)) g (ty := .int) (by decide) rfl rfl rfl rfl (hb hby own_d6_31) (fun T210 h212 Y211 W213 F214 => ?_)
  show own_Ends _ _ _ _ (T210.setTop (mkF m 34 #[.val (.ref r0), .val (.int x1)] []))
  refine own_st (fun t_ => XS.iconst (own_here Y211) hx rfl (hb hby own_d6_34) ) ?_
  show own_Ends _ _ _ _ (T210.setTop (mkF m 35 #[.val (.ref r0), .val (.int x1)] [(.int (1 : Int32))]))
  have K215 : Keep h0 h212 [r0] := (Keep.refl h0 [r0]).wr W213 (Or.inl (List.mem_of_getElem? (i := 0) rfl))
  have f216 : Fld Z h212 r0 "com/example/deft_wiring/deftwiring/context/XmlScanner" "bytes" "[B" (.ref ra) := FB.other W213 (Or.inr (slot_ne (Or.inr (hw _ (List.mem_of_getElem? (i := 30) rfl))) (Or.inl (hw _ (List.mem_of_getElem? (i := 40) rfl))) (by decide) (t := (.array .byte)) (t' := .int) (by decide) (by decide)))
  have f217 : Fld Z h212 r0 "com/example/deft_wiring/deftwiring/context/XmlScanner" "end" "I" (.int (2 : Int32)) := FE.other W213 (Or.inr (slot_ne (Or.inr (hw _ (List.mem_of_getElem? (i := 32) rfl))) (Or.inl (hw _ (List.mem_of_getElem? (i := 40) rfl))) (by decide) (t := .int) (t' := .int) (by decide) (by decide)))
  refine own_retN Y211 hx hlk (t := .boolean) hret (by simp) (hb hby own_d6_35) (by decide) (by decide) ?_
  exact ⟨rfl, K215, f216, f217, F214⟩
theorem own_ef_own_rm6_n1 (m : MethodId) (r0 : Addr) (x1 : Int32) : entryFrame m #[(.ref r0), (.int x1)] 2 = mkF m 0 #[.val (.ref r0), .val (.int x1)] [] := by first | (simp [entryFrame, mkF, argsToLocals, Value.category]; done) | rfl
def own_Q_own_rm6_n1 (Z : State)  (h0 : Heap) (n0 : Nat) (v : Option Value) (h : Heap) : Prop := v = some (.int 0) ∧ h0 = h
set_option maxRecDepth 65536 in
set_option maxHeartbeats 40000000 in
theorem own_rm6_n1 (l : Launch) (Z : State) (a0 : Array Value) (hw : ∀ d ∈ tables_1, d.before a0 Z = true) (ws : List Jvm.Cond) (r0 : Addr) (x1 : Int32) (ra : Addr) (u0 u1 : Int32) (h0 : Heap) (n0 : Nat)  (E : Exa Z h0 r0 "com/example/deft_wiring/deftwiring/context/XmlScanner") (FB : Fld Z h0 r0 "com/example/deft_wiring/deftwiring/context/XmlScanner" "bytes" "[B" (.ref ra)) (FE : Fld Z h0 r0 "com/example/deft_wiring/deftwiring/context/XmlScanner" "end" "I" (.int 2)) (FP : Fld Z h0 r0 "com/example/deft_wiring/deftwiring/context/XmlScanner" "pos" "I" (.int 1)) (A : own_A Z h0 ra .byte [(.int u0), (.int u1)]) (hu : ¬ u1 = x1) :
    own_Con l Z (⟨"com/example/deft_wiring/deftwiring/context/XmlScanner", "skip", "(C)Z"⟩ : MethodName) prog_76_method_6_code 2 (some .boolean) ws ({ frames := 0, cells := 0, slots := 0, locals := 0 } : Room) #[(.ref r0), (.int x1)] h0 n0 (own_Q_own_rm6_n1 Z  h0 n0) := by
  refine own_body (plainFor_of_name own_pn1) ?_
  intro p e s m below meth c T0 hx hZ hby hml hown hnm hret hlk Y0
  replace hown : s.vm.findClass "com/example/deft_wiring/deftwiring/context/XmlScanner" = some m.cls := hown
  replace hnm : meth.name = "skip" := hnm
  rw [own_ef_own_rm6_n1 m r0 x1]
  show own_Ends _ _ _ _ (T0.setTop (mkF m 0 #[.val (.ref r0), .val (.int x1)] []))
  refine own_st (fun t_ => XS.aloadN (own_here Y0) hx rfl (hb hby own_d6_0) rfl rfl) ?_
  show own_Ends _ _ _ _ (T0.setTop (mkF m 1 #[.val (.ref r0), .val (.int x1)] [(.ref r0)]))
  refine own_getF Y0 hx hZ hown (host := "") (Or.inl (hw _ (List.mem_of_getElem? (i := 39) rfl))) Via.refl FP rfl rfl (hb hby own_d6_1) (fun T218 Y219 => ?_)
  show own_Ends _ _ _ _ (T218.setTop (mkF m 4 #[.val (.ref r0), .val (.int x1)] [(.int (1 : Int32))]))
  refine own_st (fun t_ => XS.aloadN (own_here Y219) hx rfl (hb hby own_d6_4) rfl rfl) ?_
  show own_Ends _ _ _ _ (T218.setTop (mkF m 5 #[.val (.ref r0), .val (.int x1)] [(.ref r0), (.int (1 : Int32))]))
  refine own_getF Y219 hx hZ hown (host := "") (Or.inl (hw _ (List.mem_of_getElem? (i := 31) rfl))) Via.refl FE rfl rfl (hb hby own_d6_5) (fun T220 Y221 => ?_)
  show own_Ends _ _ _ _ (T220.setTop (mkF m 8 #[.val (.ref r0), .val (.int x1)] [(.int (2 : Int32)), (.int (1 : Int32))]))
  refine own_st (fun t_ => XS.icmpNo (own_here Y221) hx rfl (hb hby own_d6_8) rfl (XT.ii_ge_f (by decide))) ?_
  show own_Ends _ _ _ _ (T220.setTop (mkF m 11 #[.val (.ref r0), .val (.int x1)] []))
  refine own_st (fun t_ => XS.aloadN (own_here Y221) hx rfl (hb hby own_d6_11) rfl rfl) ?_
  show own_Ends _ _ _ _ (T220.setTop (mkF m 12 #[.val (.ref r0), .val (.int x1)] [(.ref r0)]))
  refine own_getF Y221 hx hZ hown (host := "") (Or.inl (hw _ (List.mem_of_getElem? (i := 29) rfl))) Via.refl FB rfl rfl (hb hby own_d6_12) (fun T222 Y223 => ?_)
  show own_Ends _ _ _ _ (T222.setTop (mkF m 15 #[.val (.ref r0), .val (.int x1)] [(.ref ra)]))
  refine own_st (fun t_ => XS.aloadN (own_here Y223) hx rfl (hb hby own_d6_15) rfl rfl) ?_
  show own_Ends _ _ _ _ (T222.setTop (mkF m 16 #[.val (.ref r0), .val (.int x1)] [(.ref r0), (.ref ra)]))
  refine own_getF Y223 hx hZ hown (host := "") (Or.inl (hw _ (List.mem_of_getElem? (i := 39) rfl))) Via.refl FP rfl rfl (hb hby own_d6_16) (fun T224 Y225 => ?_)
  show own_Ends _ _ _ _ (T224.setTop (mkF m 19 #[.val (.ref r0), .val (.int x1)] [(.int (1 : Int32)), (.ref ra)]))
  refine own_ldB Y225 hx hZ A (i := 1) (by decide) (by decide) (Nat.le_of_ble_eq_true rfl) (v := (.int u1)) rfl rfl rfl (hb hby own_d6_19) ?_
  show own_Ends _ _ _ _ (T224.setTop (mkF m 20 #[.val (.ref r0), .val (.int x1)] [(.int u1)]))
  refine own_st (fun t_ => XS.iloadN (own_here Y225) hx rfl (hb hby own_d6_20) rfl) ?_
  show own_Ends _ _ _ _ (T224.setTop (mkF m 21 #[.val (.ref r0), .val (.int x1)] [(.int x1), (.int u1)]))
  refine own_st (fun t_ => XS.icmpYes (own_here Y225) hx rfl (pc0 := 21) (pc' := 36) rfl (hb hby own_d6_21) rfl (XT.ii_ne_t hu) (by decide) (by decide)) ?_
  show own_Ends _ _ _ _ (T224.setTop (mkF m 36 #[.val (.ref r0), .val (.int x1)] []))
  refine own_st (fun t_ => XS.iconst (own_here Y225) hx rfl (hb hby own_d6_36) ) ?_
  show own_Ends _ _ _ _ (T224.setTop (mkF m 37 #[.val (.ref r0), .val (.int x1)] [(.int (0 : Int32))]))
  refine own_retN Y225 hx hlk (t := .boolean) hret (by simp) (hb hby own_d6_37) (by decide) (by decide) ?_
  exact ⟨rfl, rfl⟩
theorem own_ef_own_rm7_1 (m : MethodId) (r0 : Addr) : entryFrame m #[(.ref r0)] 1 = mkF m 0 #[.val (.ref r0)] [] := by first | (simp [entryFrame, mkF, argsToLocals, Value.category]; done) | rfl
def own_Q_own_rm7_1 (Z : State) (u0 u1 : Int32) (h0 : Heap) (n0 : Nat) (v : Option Value) (h : Heap) : Prop := v = some (.int (u1 &&& (255 : Int32))) ∧ h0 = h
set_option maxRecDepth 65536 in
set_option maxHeartbeats 40000000 in
theorem own_rm7_1 (l : Launch) (Z : State) (a0 : Array Value) (hw : ∀ d ∈ tables_1, d.before a0 Z = true) (ws : List Jvm.Cond) (r0 : Addr) (ra : Addr) (u0 u1 : Int32) (h0 : Heap) (n0 : Nat)  (E : Exa Z h0 r0 "com/example/deft_wiring/deftwiring/context/XmlScanner") (FB : Fld Z h0 r0 "com/example/deft_wiring/deftwiring/context/XmlScanner" "bytes" "[B" (.ref ra)) (FE : Fld Z h0 r0 "com/example/deft_wiring/deftwiring/context/XmlScanner" "end" "I" (.int 2)) (FP : Fld Z h0 r0 "com/example/deft_wiring/deftwiring/context/XmlScanner" "pos" "I" (.int 1)) (A : own_A Z h0 ra .byte [(.int u0), (.int u1)]) :
    own_Con l Z (⟨"com/example/deft_wiring/deftwiring/context/XmlScanner", "peek", "()I"⟩ : MethodName) prog_76_method_5_code 1 (some .int) ws ({ frames := 0, cells := 0, slots := 0, locals := 0 } : Room) #[(.ref r0)] h0 n0 (own_Q_own_rm7_1 Z u0 u1 h0 n0) := by
  refine own_body (plainFor_of_name own_pn1) ?_
  intro p e s m below meth c T0 hx hZ hby hml hown hnm hret hlk Y0
  replace hown : s.vm.findClass "com/example/deft_wiring/deftwiring/context/XmlScanner" = some m.cls := hown
  replace hnm : meth.name = "peek" := hnm
  rw [own_ef_own_rm7_1 m r0]
  show own_Ends _ _ _ _ (T0.setTop (mkF m 0 #[.val (.ref r0)] []))
  refine own_st (fun t_ => XS.aloadN (own_here Y0) hx rfl (hb hby own_d7_0) rfl rfl) ?_
  show own_Ends _ _ _ _ (T0.setTop (mkF m 1 #[.val (.ref r0)] [(.ref r0)]))
  refine own_getF Y0 hx hZ hown (host := "") (Or.inl (hw _ (List.mem_of_getElem? (i := 39) rfl))) Via.refl FP rfl rfl (hb hby own_d7_1) (fun T226 Y227 => ?_)
  show own_Ends _ _ _ _ (T226.setTop (mkF m 4 #[.val (.ref r0)] [(.int (1 : Int32))]))
  refine own_st (fun t_ => XS.aloadN (own_here Y227) hx rfl (hb hby own_d7_4) rfl rfl) ?_
  show own_Ends _ _ _ _ (T226.setTop (mkF m 5 #[.val (.ref r0)] [(.ref r0), (.int (1 : Int32))]))
  refine own_getF Y227 hx hZ hown (host := "") (Or.inl (hw _ (List.mem_of_getElem? (i := 31) rfl))) Via.refl FE rfl rfl (hb hby own_d7_5) (fun T228 Y229 => ?_)
  show own_Ends _ _ _ _ (T228.setTop (mkF m 8 #[.val (.ref r0)] [(.int (2 : Int32)), (.int (1 : Int32))]))
  refine own_st (fun t_ => XS.icmpNo (own_here Y229) hx rfl (hb hby own_d7_8) rfl (XT.ii_ge_f (by decide))) ?_
  show own_Ends _ _ _ _ (T228.setTop (mkF m 11 #[.val (.ref r0)] []))
  refine own_st (fun t_ => XS.aloadN (own_here Y229) hx rfl (hb hby own_d7_11) rfl rfl) ?_
  show own_Ends _ _ _ _ (T228.setTop (mkF m 12 #[.val (.ref r0)] [(.ref r0)]))
  refine own_getF Y229 hx hZ hown (host := "") (Or.inl (hw _ (List.mem_of_getElem? (i := 29) rfl))) Via.refl FB rfl rfl (hb hby own_d7_12) (fun T230 Y231 => ?_)
  show own_Ends _ _ _ _ (T230.setTop (mkF m 15 #[.val (.ref r0)] [(.ref ra)]))
  refine own_st (fun t_ => XS.aloadN (own_here Y231) hx rfl (hb hby own_d7_15) rfl rfl) ?_
  show own_Ends _ _ _ _ (T230.setTop (mkF m 16 #[.val (.ref r0)] [(.ref r0), (.ref ra)]))
  refine own_getF Y231 hx hZ hown (host := "") (Or.inl (hw _ (List.mem_of_getElem? (i := 39) rfl))) Via.refl FP rfl rfl (hb hby own_d7_16) (fun T232 Y233 => ?_)
  show own_Ends _ _ _ _ (T232.setTop (mkF m 19 #[.val (.ref r0)] [(.int (1 : Int32)), (.ref ra)]))
  refine own_ldB Y233 hx hZ A (i := 1) (by decide) (by decide) (Nat.le_of_ble_eq_true rfl) (v := (.int u1)) rfl rfl rfl (hb hby own_d7_19) ?_
  show own_Ends _ _ _ _ (T232.setTop (mkF m 20 #[.val (.ref r0)] [(.int u1)]))
  refine own_st (fun t_ => XS.sipush (own_here Y233) hx rfl (hb hby own_d7_20) ) ?_
  show own_Ends _ _ _ _ (T232.setTop (mkF m 23 #[.val (.ref r0)] [(.int (255 : Int32)), (.int u1)]))
  refine own_st (fun t_ => XS.iand (own_here Y233) hx rfl (hb hby own_d7_23) rfl) ?_
  show own_Ends _ _ _ _ (T232.setTop (mkF m 24 #[.val (.ref r0)] [(.int (u1 &&& (255 : Int32)))]))
  refine own_st (fun t_ => XS.goto (own_here Y233) hx rfl (pc0 := 24) (pc' := 28) rfl (hb hby own_d7_24) (by decide) (by decide)) ?_
  show own_Ends _ _ _ _ (T232.setTop (mkF m 28 #[.val (.ref r0)] [(.int (u1 &&& (255 : Int32)))]))
  refine own_retI Y233 hx hlk hret (hb hby own_d7_28) (by decide) (by decide) ?_
  exact ⟨rfl, rfl⟩
theorem own_ef_own_rm8_1 (m : MethodId) (r0 : Addr) : entryFrame m #[(.ref r0)] 1 = mkF m 0 #[.val (.ref r0)] [] := by first | (simp [entryFrame, mkF, argsToLocals, Value.category]; done) | rfl
def own_Q_own_rm8_1 (Z : State)  (h0 : Heap) (n0 : Nat) (v : Option Value) (h : Heap) : Prop := v = some (.int 0) ∧ h0 = h
set_option maxRecDepth 65536 in
set_option maxHeartbeats 40000000 in
theorem own_rm8_1 (l : Launch) (Z : State) (a0 : Array Value) (hw : ∀ d ∈ tables_1, d.before a0 Z = true) (ws : List Jvm.Cond) (r0 : Addr) (ra : Addr) (u0 u1 : Int32) (h0 : Heap) (n0 : Nat)  (E : Exa Z h0 r0 "com/example/deft_wiring/deftwiring/context/XmlScanner") (FB : Fld Z h0 r0 "com/example/deft_wiring/deftwiring/context/XmlScanner" "bytes" "[B" (.ref ra)) (FE : Fld Z h0 r0 "com/example/deft_wiring/deftwiring/context/XmlScanner" "end" "I" (.int 2)) (FP : Fld Z h0 r0 "com/example/deft_wiring/deftwiring/context/XmlScanner" "pos" "I" (.int 1)) (A : own_A Z h0 ra .byte [(.int u0), (.int u1)]) :
    own_Con l Z (⟨"com/example/deft_wiring/deftwiring/context/XmlScanner", "atEnd", "()Z"⟩ : MethodName) prog_76_method_4_code 1 (some .boolean) ws ({ frames := 0, cells := 0, slots := 0, locals := 0 } : Room) #[(.ref r0)] h0 n0 (own_Q_own_rm8_1 Z  h0 n0) := by
  refine own_body (plainFor_of_name own_pn1) ?_
  intro p e s m below meth c T0 hx hZ hby hml hown hnm hret hlk Y0
  replace hown : s.vm.findClass "com/example/deft_wiring/deftwiring/context/XmlScanner" = some m.cls := hown
  replace hnm : meth.name = "atEnd" := hnm
  rw [own_ef_own_rm8_1 m r0]
  show own_Ends _ _ _ _ (T0.setTop (mkF m 0 #[.val (.ref r0)] []))
  refine own_st (fun t_ => XS.aloadN (own_here Y0) hx rfl (hb hby own_d8_0) rfl rfl) ?_
  show own_Ends _ _ _ _ (T0.setTop (mkF m 1 #[.val (.ref r0)] [(.ref r0)]))
  refine own_getF Y0 hx hZ hown (host := "") (Or.inl (hw _ (List.mem_of_getElem? (i := 39) rfl))) Via.refl FP rfl rfl (hb hby own_d8_1) (fun T234 Y235 => ?_)
  show own_Ends _ _ _ _ (T234.setTop (mkF m 4 #[.val (.ref r0)] [(.int (1 : Int32))]))
  refine own_st (fun t_ => XS.aloadN (own_here Y235) hx rfl (hb hby own_d8_4) rfl rfl) ?_
  show own_Ends _ _ _ _ (T234.setTop (mkF m 5 #[.val (.ref r0)] [(.ref r0), (.int (1 : Int32))]))
  refine own_getF Y235 hx hZ hown (host := "") (Or.inl (hw _ (List.mem_of_getElem? (i := 31) rfl))) Via.refl FE rfl rfl (hb hby own_d8_5) (fun T236 Y237 => ?_)
  show own_Ends _ _ _ _ (T236.setTop (mkF m 8 #[.val (.ref r0)] [(.int (2 : Int32)), (.int (1 : Int32))]))
  refine own_st (fun t_ => XS.icmpYes (own_here Y237) hx rfl (pc0 := 8) (pc' := 15) rfl (hb hby own_d8_8) rfl (XT.ii_lt_t (by decide)) (by decide) (by decide)) ?_
  show own_Ends _ _ _ _ (T236.setTop (mkF m 15 #[.val (.ref r0)] []))
  refine own_st (fun t_ => XS.iconst (own_here Y237) hx rfl (hb hby own_d8_15) ) ?_
  show own_Ends _ _ _ _ (T236.setTop (mkF m 16 #[.val (.ref r0)] [(.int (0 : Int32))]))
  refine own_retN Y237 hx hlk (t := .boolean) hret (by simp) (hb hby own_d8_16) (by decide) (by decide) ?_
  exact ⟨rfl, rfl⟩
theorem own_ef_own_rm6_e (m : MethodId) (r0 : Addr) (x1 : Int32) : entryFrame m #[(.ref r0), (.int x1)] 2 = mkF m 0 #[.val (.ref r0), .val (.int x1)] [] := by first | (simp [entryFrame, mkF, argsToLocals, Value.category]; done) | rfl
def own_Q_own_rm6_e (Z : State)  (h0 : Heap) (n0 : Nat) (v : Option Value) (h : Heap) : Prop := v = some (.int 0) ∧ h0 = h
set_option maxRecDepth 65536 in
set_option maxHeartbeats 40000000 in
theorem own_rm6_e (l : Launch) (Z : State) (a0 : Array Value) (hw : ∀ d ∈ tables_1, d.before a0 Z = true) (ws : List Jvm.Cond) (r0 : Addr) (x1 : Int32) (ra : Addr) (u0 u1 : Int32) (h0 : Heap) (n0 : Nat)  (E : Exa Z h0 r0 "com/example/deft_wiring/deftwiring/context/XmlScanner") (FB : Fld Z h0 r0 "com/example/deft_wiring/deftwiring/context/XmlScanner" "bytes" "[B" (.ref ra)) (FE : Fld Z h0 r0 "com/example/deft_wiring/deftwiring/context/XmlScanner" "end" "I" (.int 2)) (FP : Fld Z h0 r0 "com/example/deft_wiring/deftwiring/context/XmlScanner" "pos" "I" (.int 2)) (A : own_A Z h0 ra .byte [(.int u0), (.int u1)]) :
    own_Con l Z (⟨"com/example/deft_wiring/deftwiring/context/XmlScanner", "skip", "(C)Z"⟩ : MethodName) prog_76_method_6_code 2 (some .boolean) ws ({ frames := 0, cells := 0, slots := 0, locals := 0 } : Room) #[(.ref r0), (.int x1)] h0 n0 (own_Q_own_rm6_e Z  h0 n0) := by
  refine own_body (plainFor_of_name own_pn1) ?_
  intro p e s m below meth c T0 hx hZ hby hml hown hnm hret hlk Y0
  replace hown : s.vm.findClass "com/example/deft_wiring/deftwiring/context/XmlScanner" = some m.cls := hown
  replace hnm : meth.name = "skip" := hnm
  rw [own_ef_own_rm6_e m r0 x1]
  show own_Ends _ _ _ _ (T0.setTop (mkF m 0 #[.val (.ref r0), .val (.int x1)] []))
  refine own_st (fun t_ => XS.aloadN (own_here Y0) hx rfl (hb hby own_d6_0) rfl rfl) ?_
  show own_Ends _ _ _ _ (T0.setTop (mkF m 1 #[.val (.ref r0), .val (.int x1)] [(.ref r0)]))
  refine own_getF Y0 hx hZ hown (host := "") (Or.inl (hw _ (List.mem_of_getElem? (i := 39) rfl))) Via.refl FP rfl rfl (hb hby own_d6_1) (fun T238 Y239 => ?_)
  show own_Ends _ _ _ _ (T238.setTop (mkF m 4 #[.val (.ref r0), .val (.int x1)] [(.int (2 : Int32))]))
  refine own_st (fun t_ => XS.aloadN (own_here Y239) hx rfl (hb hby own_d6_4) rfl rfl) ?_
  show own_Ends _ _ _ _ (T238.setTop (mkF m 5 #[.val (.ref r0), .val (.int x1)] [(.ref r0), (.int (2 : Int32))]))
  refine own_getF Y239 hx hZ hown (host := "") (Or.inl (hw _ (List.mem_of_getElem? (i := 31) rfl))) Via.refl FE rfl rfl (hb hby own_d6_5) (fun T240 Y241 => ?_)
  show own_Ends _ _ _ _ (T240.setTop (mkF m 8 #[.val (.ref r0), .val (.int x1)] [(.int (2 : Int32)), (.int (2 : Int32))]))
  refine own_st (fun t_ => XS.icmpYes (own_here Y241) hx rfl (pc0 := 8) (pc' := 36) rfl (hb hby own_d6_8) rfl (XT.ii_ge_t (by decide)) (by decide) (by decide)) ?_
  show own_Ends _ _ _ _ (T240.setTop (mkF m 36 #[.val (.ref r0), .val (.int x1)] []))
  refine own_st (fun t_ => XS.iconst (own_here Y241) hx rfl (hb hby own_d6_36) ) ?_
  show own_Ends _ _ _ _ (T240.setTop (mkF m 37 #[.val (.ref r0), .val (.int x1)] [(.int (0 : Int32))]))
  refine own_retN Y241 hx hlk (t := .boolean) hret (by simp) (hb hby own_d6_37) (by decide) (by decide) ?_
  exact ⟨rfl, rfl⟩
theorem own_d7_27 : decode prog_76_method_5_code 27 = .ok (.iconst (-1), 1) := by decide +kernel
theorem own_ef_own_rm7_2 (m : MethodId) (r0 : Addr) : entryFrame m #[(.ref r0)] 1 = mkF m 0 #[.val (.ref r0)] [] := by first | (simp [entryFrame, mkF, argsToLocals, Value.category]; done) | rfl
def own_Q_own_rm7_2 (Z : State) (u0 u1 : Int32) (h0 : Heap) (n0 : Nat) (v : Option Value) (h : Heap) : Prop := v = some (.int (-1 : Int32)) ∧ h0 = h
set_option maxRecDepth 65536 in
set_option maxHeartbeats 40000000 in
theorem own_rm7_2 (l : Launch) (Z : State) (a0 : Array Value) (hw : ∀ d ∈ tables_1, d.before a0 Z = true) (ws : List Jvm.Cond) (r0 : Addr) (ra : Addr) (u0 u1 : Int32) (h0 : Heap) (n0 : Nat)  (E : Exa Z h0 r0 "com/example/deft_wiring/deftwiring/context/XmlScanner") (FB : Fld Z h0 r0 "com/example/deft_wiring/deftwiring/context/XmlScanner" "bytes" "[B" (.ref ra)) (FE : Fld Z h0 r0 "com/example/deft_wiring/deftwiring/context/XmlScanner" "end" "I" (.int 2)) (FP : Fld Z h0 r0 "com/example/deft_wiring/deftwiring/context/XmlScanner" "pos" "I" (.int 2)) (A : own_A Z h0 ra .byte [(.int u0), (.int u1)]) :
    own_Con l Z (⟨"com/example/deft_wiring/deftwiring/context/XmlScanner", "peek", "()I"⟩ : MethodName) prog_76_method_5_code 1 (some .int) ws ({ frames := 0, cells := 0, slots := 0, locals := 0 } : Room) #[(.ref r0)] h0 n0 (own_Q_own_rm7_2 Z u0 u1 h0 n0) := by
  refine own_body (plainFor_of_name own_pn1) ?_
  intro p e s m below meth c T0 hx hZ hby hml hown hnm hret hlk Y0
  replace hown : s.vm.findClass "com/example/deft_wiring/deftwiring/context/XmlScanner" = some m.cls := hown
  replace hnm : meth.name = "peek" := hnm
  rw [own_ef_own_rm7_2 m r0]
  show own_Ends _ _ _ _ (T0.setTop (mkF m 0 #[.val (.ref r0)] []))
  refine own_st (fun t_ => XS.aloadN (own_here Y0) hx rfl (hb hby own_d7_0) rfl rfl) ?_
  show own_Ends _ _ _ _ (T0.setTop (mkF m 1 #[.val (.ref r0)] [(.ref r0)]))
  refine own_getF Y0 hx hZ hown (host := "") (Or.inl (hw _ (List.mem_of_getElem? (i := 39) rfl))) Via.refl FP rfl rfl (hb hby own_d7_1) (fun T242 Y243 => ?_)
  show own_Ends _ _ _ _ (T242.setTop (mkF m 4 #[.val (.ref r0)] [(.int (2 : Int32))]))
  refine own_st (fun t_ => XS.aloadN (own_here Y243) hx rfl (hb hby own_d7_4) rfl rfl) ?_
  show own_Ends _ _ _ _ (T242.setTop (mkF m 5 #[.val (.ref r0)] [(.ref r0), (.int (2 : Int32))]))
  refine own_getF Y243 hx hZ hown (host := "") (Or.inl (hw _ (List.mem_of_getElem? (i := 31) rfl))) Via.refl FE rfl rfl (hb hby own_d7_5) (fun T244 Y245 => ?_)
  show own_Ends _ _ _ _ (T244.setTop (mkF m 8 #[.val (.ref r0)] [(.int (2 : Int32)), (.int (2 : Int32))]))
  refine own_st (fun t_ => XS.icmpYes (own_here Y245) hx rfl (pc0 := 8) (pc' := 27) rfl (hb hby own_d7_8) rfl (XT.ii_ge_t (by decide)) (by decide) (by decide)) ?_
  show own_Ends _ _ _ _ (T244.setTop (mkF m 27 #[.val (.ref r0)] []))
  refine own_st (fun t_ => XS.iconst (own_here Y245) hx rfl (hb hby own_d7_27) ) ?_
  show own_Ends _ _ _ _ (T244.setTop (mkF m 28 #[.val (.ref r0)] [(.int (-1 : Int32))]))
  refine own_retI Y245 hx hlk hret (hb hby own_d7_28) (by decide) (by decide) ?_
  exact ⟨rfl, rfl⟩
theorem own_d8_11 : decode prog_76_method_4_code 11 = .ok (.iconst 1, 1) := by decide +kernel
theorem own_d8_12 : decode prog_76_method_4_code 12 = .ok (.goto 4, 3) := by decide +kernel
theorem own_ef_own_rm8_2 (m : MethodId) (r0 : Addr) : entryFrame m #[(.ref r0)] 1 = mkF m 0 #[.val (.ref r0)] [] := by first | (simp [entryFrame, mkF, argsToLocals, Value.category]; done) | rfl
def own_Q_own_rm8_2 (Z : State)  (h0 : Heap) (n0 : Nat) (v : Option Value) (h : Heap) : Prop := v = some (.int 1) ∧ h0 = h
set_option maxRecDepth 65536 in
set_option maxHeartbeats 40000000 in
theorem own_rm8_2 (l : Launch) (Z : State) (a0 : Array Value) (hw : ∀ d ∈ tables_1, d.before a0 Z = true) (ws : List Jvm.Cond) (r0 : Addr) (ra : Addr) (u0 u1 : Int32) (h0 : Heap) (n0 : Nat)  (E : Exa Z h0 r0 "com/example/deft_wiring/deftwiring/context/XmlScanner") (FB : Fld Z h0 r0 "com/example/deft_wiring/deftwiring/context/XmlScanner" "bytes" "[B" (.ref ra)) (FE : Fld Z h0 r0 "com/example/deft_wiring/deftwiring/context/XmlScanner" "end" "I" (.int 2)) (FP : Fld Z h0 r0 "com/example/deft_wiring/deftwiring/context/XmlScanner" "pos" "I" (.int 2)) (A : own_A Z h0 ra .byte [(.int u0), (.int u1)]) :
    own_Con l Z (⟨"com/example/deft_wiring/deftwiring/context/XmlScanner", "atEnd", "()Z"⟩ : MethodName) prog_76_method_4_code 1 (some .boolean) ws ({ frames := 0, cells := 0, slots := 0, locals := 0 } : Room) #[(.ref r0)] h0 n0 (own_Q_own_rm8_2 Z  h0 n0) := by
  refine own_body (plainFor_of_name own_pn1) ?_
  intro p e s m below meth c T0 hx hZ hby hml hown hnm hret hlk Y0
  replace hown : s.vm.findClass "com/example/deft_wiring/deftwiring/context/XmlScanner" = some m.cls := hown
  replace hnm : meth.name = "atEnd" := hnm
  rw [own_ef_own_rm8_2 m r0]
  show own_Ends _ _ _ _ (T0.setTop (mkF m 0 #[.val (.ref r0)] []))
  refine own_st (fun t_ => XS.aloadN (own_here Y0) hx rfl (hb hby own_d8_0) rfl rfl) ?_
  show own_Ends _ _ _ _ (T0.setTop (mkF m 1 #[.val (.ref r0)] [(.ref r0)]))
  refine own_getF Y0 hx hZ hown (host := "") (Or.inl (hw _ (List.mem_of_getElem? (i := 39) rfl))) Via.refl FP rfl rfl (hb hby own_d8_1) (fun T246 Y247 => ?_)
  show own_Ends _ _ _ _ (T246.setTop (mkF m 4 #[.val (.ref r0)] [(.int (2 : Int32))]))
  refine own_st (fun t_ => XS.aloadN (own_here Y247) hx rfl (hb hby own_d8_4) rfl rfl) ?_
  show own_Ends _ _ _ _ (T246.setTop (mkF m 5 #[.val (.ref r0)] [(.ref r0), (.int (2 : Int32))]))
  refine own_getF Y247 hx hZ hown (host := "") (Or.inl (hw _ (List.mem_of_getElem? (i := 31) rfl))) Via.refl FE rfl rfl (hb hby own_d8_5) (fun T248 Y249 => ?_)
  show own_Ends _ _ _ _ (T248.setTop (mkF m 8 #[.val (.ref r0)] [(.int (2 : Int32)), (.int (2 : Int32))]))
  refine own_st (fun t_ => XS.icmpNo (own_here Y249) hx rfl (hb hby own_d8_8) rfl (XT.ii_lt_f (by decide))) ?_
  show own_Ends _ _ _ _ (T248.setTop (mkF m 11 #[.val (.ref r0)] []))
  refine own_st (fun t_ => XS.iconst (own_here Y249) hx rfl (hb hby own_d8_11) ) ?_
  show own_Ends _ _ _ _ (T248.setTop (mkF m 12 #[.val (.ref r0)] [(.int (1 : Int32))]))
  refine own_st (fun t_ => XS.goto (own_here Y249) hx rfl (pc0 := 12) (pc' := 16) rfl (hb hby own_d8_12) (by decide) (by decide)) ?_
  show own_Ends _ _ _ _ (T248.setTop (mkF m 16 #[.val (.ref r0)] [(.int (1 : Int32))]))
  refine own_retN Y249 hx hlk (t := .boolean) hret (by simp) (hb hby own_d8_16) (by decide) (by decide) ?_
  exact ⟨rfl, rfl⟩
theorem own_pd2 : parseMethodDescriptor "([BI)V" = some ⟨[(.array .byte), .int], none⟩ := by decide +kernel
theorem own_pd3 : parseMethodDescriptor "(BBI)I" = some ⟨[.byte, .byte, .int], some .int⟩ := by decide +kernel
theorem own_pd4 : parseMethodDescriptor "(C)Z" = some ⟨[.char], some .boolean⟩ := by decide +kernel
theorem own_pd5 : parseMethodDescriptor "()I" = some ⟨[], some .int⟩ := by decide +kernel
theorem own_pd6 : parseMethodDescriptor "()Z" = some ⟨[], some .boolean⟩ := by decide +kernel
theorem own_ef_own_rm0 (m : MethodId) (x0 : Int32) (x1 : Int32) (x2 : Int32) (x3 : Int32) (x4 : Int32) : entryFrame m #[(.int x0), (.int x1), (.int x2), (.int x3), (.int x4)] maxLocals = mkF m 0 #[.val (.int x0), .val (.int x1), .val (.int x2), .val (.int x3), .val (.int x4), .unset, .unset, .unset, .unset, .unset, .unset, .unset, .unset, .unset, .unset] [] := by first | (simp [entryFrame, mkF, argsToLocals, Value.category, maxLocals]; done) | rfl
def own_Q_own_rm0 (Z : State) (x0 : Int32) (x1 : Int32) (x2 : Int32) (x3 : Int32) (x4 : Int32) (h0 : Heap) (n0 : Nat) (v : Option Value) (h : Heap) : Prop := v = some (.int 1)
set_option maxRecDepth 65536 in
set_option maxHeartbeats 40000000 in
theorem own_rm0 (l : Launch) (Z : State) (a0 : Array Value) (hw : ∀ d ∈ tables_1, d.before a0 Z = true) (ws : List Jvm.Cond) (x0 : Int32) (x1 : Int32) (x2 : Int32) (x3 : Int32) (x4 : Int32)  (h0 : Heap) (n0 : Nat) (Z0 : n0 ≤ h0.size)  :
    own_Con l Z x code maxLocals ret ws room_1 #[(.int x0), (.int x1), (.int x2), (.int x3), (.int x4)] h0 n0 (own_Q_own_rm0 Z x0 x1 x2 x3 x4 h0 n0) := by
  refine own_body (plainFor_of_name own_pn2) ?_
  intro p e s m below meth c T0 hx hZ hby hml hown hnm hret hlk Y0
  replace hown : s.vm.findClass "com/example/deft_wiring/deftwiring/context/XmlScannerSkipPinLaw" = some m.cls := hown
  replace hml : c.maxLocals = 15 := hml
  replace hret : meth.sig.returnType = some .boolean := hret
  rw [own_ef_own_rm0 m x0 x1 x2 x3 x4]
  show own_Ends _ _ _ _ (T0.setTop (mkF m 0 #[.val (.int x0), .val (.int x1), .val (.int x2), .val (.int x3), .val (.int x4), .unset, .unset, .unset, .unset, .unset, .unset, .unset, .unset, .unset, .unset] []))
  refine own_st (fun t_ => XS.iloadN (own_here Y0) hx rfl (hb hby at_0) rfl) ?_
  show own_Ends _ _ _ _ (T0.setTop (mkF m 1 #[.val (.int x0), .val (.int x1), .val (.int x2), .val (.int x3), .val (.int x4), .unset, .unset, .unset, .unset, .unset, .unset, .unset, .unset, .unset, .unset] [(.int x2)]))
  refine own_st (fun t_ => XS.bipush (own_here Y0) hx rfl (hb hby at_1) ) ?_
  show own_Ends _ _ _ _ (T0.setTop (mkF m 3 #[.val (.int x0), .val (.int x1), .val (.int x2), .val (.int x3), .val (.int x4), .unset, .unset, .unset, .unset, .unset, .unset, .unset, .unset, .unset, .unset] [(.int (127 : Int32)), (.int x2)]))
  refine own_st (fun t_ => XS.iand (own_here Y0) hx rfl (hb hby at_3) rfl) ?_
  show own_Ends _ _ _ _ (T0.setTop (mkF m 4 #[.val (.int x0), .val (.int x1), .val (.int x2), .val (.int x3), .val (.int x4), .unset, .unset, .unset, .unset, .unset, .unset, .unset, .unset, .unset, .unset] [(.int (x2 &&& (127 : Int32)))]))
  refine own_st (fun t_ => XS.i2c (own_here Y0) hx rfl (hb hby at_4) rfl) ?_
  show own_Ends _ _ _ _ (T0.setTop (mkF m 5 #[.val (.int x0), .val (.int x1), .val (.int x2), .val (.int x3), .val (.int x4), .unset, .unset, .unset, .unset, .unset, .unset, .unset, .unset, .unset, .unset] [(.int ((x2 &&& (127 : Int32)).toUInt32.toUInt16.toUInt32.toInt32))]))
  refine own_st (fun t_ => XS.istore (own_here Y0) hx rfl (hb hby at_5) rfl (l' := #[.val (.int x0), .val (.int x1), .val (.int x2), .val (.int x3), .val (.int x4), .val (.int ((x2 &&& (127 : Int32)).toUInt32.toUInt16.toUInt32.toInt32)), .unset, .unset, .unset, .unset, .unset, .unset, .unset, .unset, .unset]) rfl) ?_
  show own_Ends _ _ _ _ (T0.setTop (mkF m 7 #[.val (.int x0), .val (.int x1), .val (.int x2), .val (.int x3), .val (.int x4), .val (.int ((x2 &&& (127 : Int32)).toUInt32.toUInt16.toUInt32.toInt32)), .unset, .unset, .unset, .unset, .unset, .unset, .unset, .unset, .unset] []))
  generalize hc_ : ((x2 &&& (127 : Int32)).toUInt32.toUInt16.toUInt32.toInt32) = c_
  have hcr : 0 ≤ c_.toInt ∧ c_.toInt ≤ 127 := by have a := c_and x2 127 (by decide); have b := c_i2c (x2 &&& 127); rw [hc_] at b; have l : (127 : Int32).toInt = 127 := rfl; omega
  refine own_st (fun t_ => XS.iloadN (own_here Y0) hx rfl (hb hby at_7) rfl) ?_
  show own_Ends _ _ _ _ (T0.setTop (mkF m 8 #[.val (.int x0), .val (.int x1), .val (.int x2), .val (.int x3), .val (.int x4), .val (.int c_), .unset, .unset, .unset, .unset, .unset, .unset, .unset, .unset, .unset] [(.int x3)]))
  refine own_st (fun t_ => XS.iconst (own_here Y0) hx rfl (hb hby at_8) ) ?_
  show own_Ends _ _ _ _ (T0.setTop (mkF m 9 #[.val (.int x0), .val (.int x1), .val (.int x2), .val (.int x3), .val (.int x4), .val (.int c_), .unset, .unset, .unset, .unset, .unset, .unset, .unset, .unset, .unset] [(.int (1 : Int32)), (.int x3)]))
  refine own_st (fun t_ => XS.iand (own_here Y0) hx rfl (hb hby at_9) rfl) ?_
  show own_Ends _ _ _ _ (T0.setTop (mkF m 10 #[.val (.int x0), .val (.int x1), .val (.int x2), .val (.int x3), .val (.int x4), .val (.int c_), .unset, .unset, .unset, .unset, .unset, .unset, .unset, .unset, .unset] [(.int (x3 &&& (1 : Int32)))]))
  have hJ250 : ∀ (T251 : State)  (u0 : Int32) (Y252 : own_S p l e room_1 s m #[(.int x0), (.int x1), (.int x2), (.int x3), (.int x4)] below meth c n0 T251 h0 0 0)  (hu0 : -128 ≤ u0.toInt ∧ u0.toInt ≤ 127), own_Ends p.tables e below (own_P s n0 (own_Q_own_rm0 Z x0 x1 x2 x3 x4 h0 n0) room_1.cells room_1.slots) (T251.setTop (mkF m 21 #[.val (.int x0), .val (.int x1), .val (.int x2), .val (.int x3), .val (.int x4), .val (.int c_), .unset, .unset, .unset, .unset, .unset, .unset, .unset, .unset, .unset] [(.int u0)])) := by
   intro T251  u0 Y252  hu0
   refine own_st (fun t_ => XS.istore (own_here Y252) hx rfl (hb hby at_21) rfl (l' := #[.val (.int x0), .val (.int x1), .val (.int x2), .val (.int x3), .val (.int x4), .val (.int c_), .val (.int u0), .unset, .unset, .unset, .unset, .unset, .unset, .unset, .unset]) rfl) ?_
   show own_Ends _ _ _ _ (T251.setTop (mkF m 23 #[.val (.int x0), .val (.int x1), .val (.int x2), .val (.int x3), .val (.int x4), .val (.int c_), .val (.int u0), .unset, .unset, .unset, .unset, .unset, .unset, .unset, .unset] []))
   refine own_st (fun t_ => XS.iloadN (own_here Y252) hx rfl (hb hby at_23) rfl) ?_
   show own_Ends _ _ _ _ (T251.setTop (mkF m 24 #[.val (.int x0), .val (.int x1), .val (.int x2), .val (.int x3), .val (.int x4), .val (.int c_), .val (.int u0), .unset, .unset, .unset, .unset, .unset, .unset, .unset, .unset] [(.int x3)]))
   refine own_st (fun t_ => XS.iconst (own_here Y252) hx rfl (hb hby at_24) ) ?_
   show own_Ends _ _ _ _ (T251.setTop (mkF m 25 #[.val (.int x0), .val (.int x1), .val (.int x2), .val (.int x3), .val (.int x4), .val (.int c_), .val (.int u0), .unset, .unset, .unset, .unset, .unset, .unset, .unset, .unset] [(.int (2 : Int32)), (.int x3)]))
   refine own_st (fun t_ => XS.iand (own_here Y252) hx rfl (hb hby at_25) rfl) ?_
   show own_Ends _ _ _ _ (T251.setTop (mkF m 26 #[.val (.int x0), .val (.int x1), .val (.int x2), .val (.int x3), .val (.int x4), .val (.int c_), .val (.int u0), .unset, .unset, .unset, .unset, .unset, .unset, .unset, .unset] [(.int (x3 &&& (2 : Int32)))]))
   have hJ253 : ∀ (T254 : State)  (u1 : Int32) (Y255 : own_S p l e room_1 s m #[(.int x0), (.int x1), (.int x2), (.int x3), (.int x4)] below meth c n0 T254 h0 0 0)  (hu1 : -128 ≤ u1.toInt ∧ u1.toInt ≤ 127), own_Ends p.tables e below (own_P s n0 (own_Q_own_rm0 Z x0 x1 x2 x3 x4 h0 n0) room_1.cells room_1.slots) (T254.setTop (mkF m 37 #[.val (.int x0), .val (.int x1), .val (.int x2), .val (.int x3), .val (.int x4), .val (.int c_), .val (.int u0), .unset, .unset, .unset, .unset, .unset, .unset, .unset, .unset] [(.int u1)])) := by
    intro T254  u1 Y255  hu1
    refine own_st (fun t_ => XS.istore (own_here Y255) hx rfl (hb hby at_37) rfl (l' := #[.val (.int x0), .val (.int x1), .val (.int x2), .val (.int x3), .val (.int x4), .val (.int c_), .val (.int u0), .val (.int u1), .unset, .unset, .unset, .unset, .unset, .unset, .unset]) rfl) ?_
    show own_Ends _ _ _ _ (T254.setTop (mkF m 39 #[.val (.int x0), .val (.int x1), .val (.int x2), .val (.int x3), .val (.int x4), .val (.int c_), .val (.int u0), .val (.int u1), .unset, .unset, .unset, .unset, .unset, .unset, .unset] []))
    refine own_st (fun t_ => XS.iload (own_here Y255) hx rfl (hb hby at_39) rfl) ?_
    show own_Ends _ _ _ _ (T254.setTop (mkF m 41 #[.val (.int x0), .val (.int x1), .val (.int x2), .val (.int x3), .val (.int x4), .val (.int c_), .val (.int u0), .val (.int u1), .unset, .unset, .unset, .unset, .unset, .unset, .unset] [(.int x4)]))
    refine own_ldcI Y255 hx hZ hown (hw _ (List.mem_of_getElem? (i := 0) rfl)) rfl (hb hby at_41) ?_
    show own_Ends _ _ _ _ (T254.setTop (mkF m 43 #[.val (.int x0), .val (.int x1), .val (.int x2), .val (.int x3), .val (.int x4), .val (.int c_), .val (.int u0), .val (.int u1), .unset, .unset, .unset, .unset, .unset, .unset, .unset] [(.int (2147483647 : Int32)), (.int x4)]))
    refine own_st (fun t_ => XS.iand (own_here Y255) hx rfl (hb hby at_43) rfl) ?_
    show own_Ends _ _ _ _ (T254.setTop (mkF m 44 #[.val (.int x0), .val (.int x1), .val (.int x2), .val (.int x3), .val (.int x4), .val (.int c_), .val (.int u0), .val (.int u1), .unset, .unset, .unset, .unset, .unset, .unset, .unset] [(.int (x4 &&& (2147483647 : Int32)))]))
    refine own_st (fun t_ => XS.iconst (own_here Y255) hx rfl (hb hby at_44) ) ?_
    show own_Ends _ _ _ _ (T254.setTop (mkF m 45 #[.val (.int x0), .val (.int x1), .val (.int x2), .val (.int x3), .val (.int x4), .val (.int c_), .val (.int u0), .val (.int u1), .unset, .unset, .unset, .unset, .unset, .unset, .unset] [(.int (3 : Int32)), (.int (x4 &&& (2147483647 : Int32)))]))
    refine own_irem Y255 hx rfl (hb hby at_45) rfl (by decide) ?_
    show own_Ends _ _ _ _ (T254.setTop (mkF m 46 #[.val (.int x0), .val (.int x1), .val (.int x2), .val (.int x3), .val (.int x4), .val (.int c_), .val (.int u0), .val (.int u1), .unset, .unset, .unset, .unset, .unset, .unset, .unset] [(.int ((x4 &&& (2147483647 : Int32)) % (3 : Int32)))]))
    refine own_st (fun t_ => XS.istore (own_here Y255) hx rfl (hb hby at_46) rfl (l' := #[.val (.int x0), .val (.int x1), .val (.int x2), .val (.int x3), .val (.int x4), .val (.int c_), .val (.int u0), .val (.int u1), .val (.int ((x4 &&& (2147483647 : Int32)) % (3 : Int32))), .unset, .unset, .unset, .unset, .unset, .unset]) rfl) ?_
    show own_Ends _ _ _ _ (T254.setTop (mkF m 48 #[.val (.int x0), .val (.int x1), .val (.int x2), .val (.int x3), .val (.int x4), .val (.int c_), .val (.int u0), .val (.int u1), .val (.int ((x4 &&& (2147483647 : Int32)) % (3 : Int32))), .unset, .unset, .unset, .unset, .unset, .unset] []))
    generalize hs_ : ((x4 &&& (2147483647 : Int32)) % (3 : Int32)) = s_
    have hs3 : s_ = 0 ∨ s_ = 1 ∨ s_ = 2 := by
      have q := c_mask x4 2147483647 31 (by decide) (by decide)
      have r := (c_irem (x4 &&& 2147483647) 3 3 rfl).1 (by rw [q]; exact Int.emod_nonneg _ (by decide))
      rw [hs_] at r
      have : s_.toInt = 0 ∨ s_.toInt = 1 ∨ s_.toInt = 2 := by omega
      simp only [own_eq]; exact this
    rcases hs3 with rfl | rfl | rfl
    ·
     show own_Ends _ _ _ _ (T254.setTop (mkF m 48 #[.val (.int x0), .val (.int x1), .val (.int x2), .val (.int x3), .val (.int x4), .val (.int c_), .val (.int u0), .val (.int u1), .val (.int (0 : Int32)), .unset, .unset, .unset, .unset, .unset, .unset] []))
     refine own_st (fun t_ => XS.iconst (own_here Y255) hx rfl (hb hby at_48) ) ?_
     show own_Ends _ _ _ _ (T254.setTop (mkF m 49 #[.val (.int x0), .val (.int x1), .val (.int x2), .val (.int x3), .val (.int x4), .val (.int c_), .val (.int u0), .val (.int u1), .val (.int (0 : Int32)), .unset, .unset, .unset, .unset, .unset, .unset] [(.int (2 : Int32))]))
     refine own_newP Y255 hx hZ (hw _ (List.mem_of_getElem? (i := 1) rfl)) rfl (hb hby at_49) rfl (by decide) (nz := 2) (cap := 2) (by decide) (by decide) (by decide) (by decide) (by decide) (ty := .byte) rfl (fun T256 h258 b261 eb262 Y257 E259 A260 => ?_)
     have g263 : n0 ≤ b261 := by rw [eb262]; exact Z0
     replace A260 : own_A Z h258 b261 .byte [(.int (0 : Int32)), (.int (0 : Int32))] := A260
     show own_Ends _ _ _ _ (T256.setTop (mkF m 51 #[.val (.int x0), .val (.int x1), .val (.int x2), .val (.int x3), .val (.int x4), .val (.int c_), .val (.int u0), .val (.int u1), .val (.int (0 : Int32)), .unset, .unset, .unset, .unset, .unset, .unset] [(.ref b261)]))
     refine own_st (fun t_ => XS.dup (own_here Y257) hx rfl (hb hby at_51) rfl rfl) ?_
     show own_Ends _ _ _ _ (T256.setTop (mkF m 52 #[.val (.int x0), .val (.int x1), .val (.int x2), .val (.int x3), .val (.int x4), .val (.int c_), .val (.int u0), .val (.int u1), .val (.int (0 : Int32)), .unset, .unset, .unset, .unset, .unset, .unset] [(.ref b261), (.ref b261)]))
     refine own_st (fun t_ => XS.iconst (own_here Y257) hx rfl (hb hby at_52) ) ?_
     show own_Ends _ _ _ _ (T256.setTop (mkF m 53 #[.val (.int x0), .val (.int x1), .val (.int x2), .val (.int x3), .val (.int x4), .val (.int c_), .val (.int u0), .val (.int u1), .val (.int (0 : Int32)), .unset, .unset, .unset, .unset, .unset, .unset] [(.int (0 : Int32)), (.ref b261), (.ref b261)]))
     refine own_st (fun t_ => XS.iload (own_here Y257) hx rfl (hb hby at_53) rfl) ?_
     show own_Ends _ _ _ _ (T256.setTop (mkF m 55 #[.val (.int x0), .val (.int x1), .val (.int x2), .val (.int x3), .val (.int x4), .val (.int c_), .val (.int u0), .val (.int u1), .val (.int (0 : Int32)), .unset, .unset, .unset, .unset, .unset, .unset] [(.int u0), (.int (0 : Int32)), (.ref b261), (.ref b261)]))
     refine own_stB Y257 hx hZ A260 g263 (i := 0) (by decide) (by decide) (Nat.le_of_ble_eq_true rfl) rfl rfl (hb hby at_55) (fun T264 h266 Y265 W267 A268 => ?_)
     replace A268 : own_A Z h266 b261 .byte [(.int (u0.toInt8.toInt32)), (.int (0 : Int32))] := A268
     show own_Ends _ _ _ _ (T264.setTop (mkF m 56 #[.val (.int x0), .val (.int x1), .val (.int x2), .val (.int x3), .val (.int x4), .val (.int c_), .val (.int u0), .val (.int u1), .val (.int (0 : Int32)), .unset, .unset, .unset, .unset, .unset, .unset] [(.ref b261)]))
     refine own_st (fun t_ => XS.dup (own_here Y265) hx rfl (hb hby at_56) rfl rfl) ?_
     show own_Ends _ _ _ _ (T264.setTop (mkF m 57 #[.val (.int x0), .val (.int x1), .val (.int x2), .val (.int x3), .val (.int x4), .val (.int c_), .val (.int u0), .val (.int u1), .val (.int (0 : Int32)), .unset, .unset, .unset, .unset, .unset, .unset] [(.ref b261), (.ref b261)]))
     refine own_st (fun t_ => XS.iconst (own_here Y265) hx rfl (hb hby at_57) ) ?_
     show own_Ends _ _ _ _ (T264.setTop (mkF m 58 #[.val (.int x0), .val (.int x1), .val (.int x2), .val (.int x3), .val (.int x4), .val (.int c_), .val (.int u0), .val (.int u1), .val (.int (0 : Int32)), .unset, .unset, .unset, .unset, .unset, .unset] [(.int (1 : Int32)), (.ref b261), (.ref b261)]))
     refine own_st (fun t_ => XS.iload (own_here Y265) hx rfl (hb hby at_58) rfl) ?_
     show own_Ends _ _ _ _ (T264.setTop (mkF m 60 #[.val (.int x0), .val (.int x1), .val (.int x2), .val (.int x3), .val (.int x4), .val (.int c_), .val (.int u0), .val (.int u1), .val (.int (0 : Int32)), .unset, .unset, .unset, .unset, .unset, .unset] [(.int u1), (.int (1 : Int32)), (.ref b261), (.ref b261)]))
     refine own_stB Y265 hx hZ A268 g263 (i := 1) (by decide) (by decide) (Nat.le_of_ble_eq_true rfl) rfl rfl (hb hby at_60) (fun T269 h271 Y270 W272 A273 => ?_)
     replace A273 : own_A Z h271 b261 .byte [(.int (u0.toInt8.toInt32)), (.int (u1.toInt8.toInt32))] := A273
     show own_Ends _ _ _ _ (T269.setTop (mkF m 61 #[.val (.int x0), .val (.int x1), .val (.int x2), .val (.int x3), .val (.int x4), .val (.int c_), .val (.int u0), .val (.int u1), .val (.int (0 : Int32)), .unset, .unset, .unset, .unset, .unset, .unset] [(.ref b261)]))
     have A274 : own_A Z h271 b261 .byte [(.int u0), (.int u1)] := by have q := A273; rw [own_byte hu0, own_byte hu1] at q; exact q
     refine own_st (fun t_ => XS.astore (own_here Y270) hx rfl (hb hby at_61) rfl rfl (l' := #[.val (.int x0), .val (.int x1), .val (.int x2), .val (.int x3), .val (.int x4), .val (.int c_), .val (.int u0), .val (.int u1), .val (.int (0 : Int32)), .val (.ref b261), .unset, .unset, .unset, .unset, .unset]) rfl) ?_
     show own_Ends _ _ _ _ (T269.setTop (mkF m 63 #[.val (.int x0), .val (.int x1), .val (.int x2), .val (.int x3), .val (.int x4), .val (.int c_), .val (.int u0), .val (.int u1), .val (.int (0 : Int32)), .val (.ref b261), .unset, .unset, .unset, .unset, .unset] []))
     refine own_new Y270 hx hZ hown (hw _ (List.mem_of_getElem? (i := 2) rfl)) (hw _ (List.mem_of_getElem? (i := 3) rfl)) (hw _ (List.mem_of_getElem? (i := 4) rfl)) rfl (hb hby at_63) (by decide) (by decide) (fun T275 h277 b281 eb282 Y276 E278 X279 D280 => ?_)
     have ne283 : b261 ≠ b281 := Nat.ne_of_lt (by rw [eb282]; exact A274.lt)
     have z285 : n0 ≤ h258.size := Nat.le_trans Z0 E259.1
     have z286 : n0 ≤ h266.size := Nat.le_trans z285 (Nat.le_of_eq W267.size.symm)
     have z287 : n0 ≤ h271.size := Nat.le_trans z286 (Nat.le_of_eq W272.size.symm)
     have g284 : n0 ≤ b281 := by rw [eb282]; exact z287
     have F288 : Fld Z h277 b281 "com/example/deft_wiring/deftwiring/context/XmlScanner" "bytes" "[B" .null := D280 _ _ _ (.array .byte) (Or.inr (hw _ (List.mem_of_getElem? (i := 30) rfl))) (by decide)
     have F289 : Fld Z h277 b281 "com/example/deft_wiring/deftwiring/context/XmlScanner" "end" "I" (.int (0 : Int32)) := D280 _ _ _ .int (Or.inr (hw _ (List.mem_of_getElem? (i := 32) rfl))) (by decide)
     have F290 : Fld Z h277 b281 "com/example/deft_wiring/deftwiring/context/XmlScanner" "document" "[B" .null := D280 _ _ _ (.array .byte) (Or.inr (hw _ (List.mem_of_getElem? (i := 34) rfl))) (by decide)
     have F291 : Fld Z h277 b281 "com/example/deft_wiring/deftwiring/context/XmlScanner" "referenceEnd" "I" (.int (0 : Int32)) := D280 _ _ _ .int (Or.inr (hw _ (List.mem_of_getElem? (i := 36) rfl))) (by decide)
     have F292 : Fld Z h277 b281 "com/example/deft_wiring/deftwiring/context/XmlScanner" "names" "Lcom/example/deft_wiring/deftwiring/context/XmlScanner$Names;" .null := D280 _ _ _ (.object "com/example/deft_wiring/deftwiring/context/XmlScanner$Names") (Or.inr (hw _ (List.mem_of_getElem? (i := 38) rfl))) (by decide)
     have F293 : Fld Z h277 b281 "com/example/deft_wiring/deftwiring/context/XmlScanner" "pos" "I" (.int (0 : Int32)) := D280 _ _ _ .int (Or.inl (hw _ (List.mem_of_getElem? (i := 40) rfl))) (by decide)
     show own_Ends _ _ _ _ (T275.setTop (mkF m 66 #[.val (.int x0), .val (.int x1), .val (.int x2), .val (.int x3), .val (.int x4), .val (.int c_), .val (.int u0), .val (.int u1), .val (.int (0 : Int32)), .val (.ref b261), .unset, .unset, .unset, .unset, .unset] [(.ref b281)]))
     refine own_st (fun t_ => XS.dup (own_here Y276) hx rfl (hb hby at_66) rfl rfl) ?_
     show own_Ends _ _ _ _ (T275.setTop (mkF m 67 #[.val (.int x0), .val (.int x1), .val (.int x2), .val (.int x3), .val (.int x4), .val (.int c_), .val (.int u0), .val (.int u1), .val (.int (0 : Int32)), .val (.ref b261), .unset, .unset, .unset, .unset, .unset] [(.ref b281), (.ref b281)]))
     refine own_st (fun t_ => XS.aload (own_here Y276) hx rfl (hb hby at_67) rfl rfl) ?_
     show own_Ends _ _ _ _ (T275.setTop (mkF m 69 #[.val (.int x0), .val (.int x1), .val (.int x2), .val (.int x3), .val (.int x4), .val (.int c_), .val (.int u0), .val (.int u1), .val (.int (0 : Int32)), .val (.ref b261), .unset, .unset, .unset, .unset, .unset] [(.ref b261), (.ref b281), (.ref b281)]))
     refine own_st (fun t_ => XS.iload (own_here Y276) hx rfl (hb hby at_69) rfl) ?_
     show own_Ends _ _ _ _ (T275.setTop (mkF m 71 #[.val (.int x0), .val (.int x1), .val (.int x2), .val (.int x3), .val (.int x4), .val (.int c_), .val (.int u0), .val (.int u1), .val (.int (0 : Int32)), .val (.ref b261), .unset, .unset, .unset, .unset, .unset] [(.int (0 : Int32)), (.ref b261), (.ref b281), (.ref b281)]))
     have f294 : own_A Z h277 b261 .byte [(.int u0), (.int u1)] := A274.ext E278
     have z295 : n0 ≤ h277.size := Nat.le_trans z287 E278.1
     refine own_callN Y276 hx hZ (y := (⟨"com/example/deft_wiring/deftwiring/context/XmlScanner", "<init>", "([BI)V"⟩ : MethodName)) rfl hown (hw _ (List.mem_of_getElem? (i := 5) rfl)) (hw _ (List.mem_of_getElem? (i := 6) rfl)) (hw _ (List.mem_of_getElem? (i := 4) rfl)) (hw _ (List.mem_of_getElem? (i := 7) rfl)) (by decide) (a := b281) (argsL := [(.ref b261), (.int (0 : Int32))]) (rest := [(.ref b281)]) (own_rm1 l Z a0 hw [] b281 b261 (0 : Int32) u0 u1 h277 n0 z295 X279 F288 F289 F290 F291 F292 F293 g284 f294 ne283) (W := 1) (by decide) (by decide) (by decide) (by decide) rfl (by rw [hml]; rfl) (lenOf own_pd2 rfl) rfl (by show 2 * 0 + _ ≤ _; exact Nat.le_of_eq rfl) (hb hby at_71) (fun T296 h298 v299 Y297 q300 => ?_)
     obtain ⟨rfl, K301, F302, F303, F304⟩ := q300
     show own_Ends _ _ _ _ (T296.setTop (mkF m 74 #[.val (.int x0), .val (.int x1), .val (.int x2), .val (.int x3), .val (.int x4), .val (.int c_), .val (.int u0), .val (.int u1), .val (.int (0 : Int32)), .val (.ref b261), .unset, .unset, .unset, .unset, .unset] [(.ref b281)]))
     refine own_st (fun t_ => XS.astore (own_here Y297) hx rfl (hb hby at_74) rfl rfl (l' := #[.val (.int x0), .val (.int x1), .val (.int x2), .val (.int x3), .val (.int x4), .val (.int c_), .val (.int u0), .val (.int u1), .val (.int (0 : Int32)), .val (.ref b261), .val (.ref b281), .unset, .unset, .unset, .unset]) rfl) ?_
     show own_Ends _ _ _ _ (T296.setTop (mkF m 76 #[.val (.int x0), .val (.int x1), .val (.int x2), .val (.int x3), .val (.int x4), .val (.int c_), .val (.int u0), .val (.int u1), .val (.int (0 : Int32)), .val (.ref b261), .val (.ref b281), .unset, .unset, .unset, .unset] []))
     refine own_st (fun t_ => XS.iload (own_here Y297) hx rfl (hb hby at_76) rfl) ?_
     show own_Ends _ _ _ _ (T296.setTop (mkF m 78 #[.val (.int x0), .val (.int x1), .val (.int x2), .val (.int x3), .val (.int x4), .val (.int c_), .val (.int u0), .val (.int u1), .val (.int (0 : Int32)), .val (.ref b261), .val (.ref b281), .unset, .unset, .unset, .unset] [(.int u0)]))
     refine own_st (fun t_ => XS.iload (own_here Y297) hx rfl (hb hby at_78) rfl) ?_
     show own_Ends _ _ _ _ (T296.setTop (mkF m 80 #[.val (.int x0), .val (.int x1), .val (.int x2), .val (.int x3), .val (.int x4), .val (.int c_), .val (.int u0), .val (.int u1), .val (.int (0 : Int32)), .val (.ref b261), .val (.ref b281), .unset, .unset, .unset, .unset] [(.int u1), (.int u0)]))
     refine own_st (fun t_ => XS.iload (own_here Y297) hx rfl (hb hby at_80) rfl) ?_
     show own_Ends _ _ _ _ (T296.setTop (mkF m 82 #[.val (.int x0), .val (.int x1), .val (.int x2), .val (.int x3), .val (.int x4), .val (.int c_), .val (.int u0), .val (.int u1), .val (.int (0 : Int32)), .val (.ref b261), .val (.ref b281), .unset, .unset, .unset, .unset] [(.int (0 : Int32)), (.int u1), (.int u0)]))
     refine own_callS Y297 hx hZ (y := (⟨"com/example/deft_wiring/deftwiring/context/XmlScannerSkipPinLaw", "at", "(BBI)I"⟩ : MethodName)) hown (hw _ (List.mem_of_getElem? (i := 41) rfl)) (hw _ (List.mem_of_getElem? (i := 42) rfl)) (hw _ (List.mem_of_getElem? (i := 43) rfl)) (hw _ (List.mem_of_getElem? (i := 44) rfl)) (by decide) (argsL := [(.int u0), (.int u1), (.int (0 : Int32))]) (rest := []) (own_rm5_0 l Z a0 hw [] u0 u1  h298 n0  ) (W := 0) (by decide) (by decide) (by decide) (by decide) rfl (by rw [hml]; rfl) (lenOf own_pd3 rfl) rfl (by show 2 * 0 + _ ≤ _; exact Nat.le_of_eq rfl) (hb hby at_82) (fun T305 h307 v308 Y306 q309 => ?_)
     obtain ⟨rfl, rfl⟩ := q309
     show own_Ends _ _ _ _ (T305.setTop (mkF m 85 #[.val (.int x0), .val (.int x1), .val (.int x2), .val (.int x3), .val (.int x4), .val (.int c_), .val (.int u0), .val (.int u1), .val (.int (0 : Int32)), .val (.ref b261), .val (.ref b281), .unset, .unset, .unset, .unset] [(.int (u0 &&& (255 : Int32)))]))
     refine own_st (fun t_ => XS.istore (own_here Y306) hx rfl (hb hby at_85) rfl (l' := #[.val (.int x0), .val (.int x1), .val (.int x2), .val (.int x3), .val (.int x4), .val (.int c_), .val (.int u0), .val (.int u1), .val (.int (0 : Int32)), .val (.ref b261), .val (.ref b281), .val (.int (u0 &&& (255 : Int32))), .unset, .unset, .unset]) rfl) ?_
     show own_Ends _ _ _ _ (T305.setTop (mkF m 87 #[.val (.int x0), .val (.int x1), .val (.int x2), .val (.int x3), .val (.int x4), .val (.int c_), .val (.int u0), .val (.int u1), .val (.int (0 : Int32)), .val (.ref b261), .val (.ref b281), .val (.int (u0 &&& (255 : Int32))), .unset, .unset, .unset] []))
     refine own_st (fun t_ => XS.iload (own_here Y306) hx rfl (hb hby at_87) rfl) ?_
     show own_Ends _ _ _ _ (T305.setTop (mkF m 89 #[.val (.int x0), .val (.int x1), .val (.int x2), .val (.int x3), .val (.int x4), .val (.int c_), .val (.int u0), .val (.int u1), .val (.int (0 : Int32)), .val (.ref b261), .val (.ref b281), .val (.int (u0 &&& (255 : Int32))), .unset, .unset, .unset] [(.int (u0 &&& (255 : Int32)))]))
     refine own_st (fun t_ => XS.iload (own_here Y306) hx rfl (hb hby at_89) rfl) ?_
     show own_Ends _ _ _ _ (T305.setTop (mkF m 91 #[.val (.int x0), .val (.int x1), .val (.int x2), .val (.int x3), .val (.int x4), .val (.int c_), .val (.int u0), .val (.int u1), .val (.int (0 : Int32)), .val (.ref b261), .val (.ref b281), .val (.int (u0 &&& (255 : Int32))), .unset, .unset, .unset] [(.int c_), (.int (u0 &&& (255 : Int32)))]))
     by_cases c91_310 : (u0 &&& (255 : Int32)) = c_
     ·
      refine own_st (fun t_ => XS.icmpNo (own_here Y306) hx rfl (hb hby at_91) rfl (XT.ii_ne_f c91_310)) ?_
      show own_Ends _ _ _ _ (T305.setTop (mkF m 94 #[.val (.int x0), .val (.int x1), .val (.int x2), .val (.int x3), .val (.int x4), .val (.int c_), .val (.int u0), .val (.int u1), .val (.int (0 : Int32)), .val (.ref b261), .val (.ref b281), .val (.int (u0 &&& (255 : Int32))), .unset, .unset, .unset] []))
      refine own_st (fun t_ => XS.iconst (own_here Y306) hx rfl (hb hby at_94) ) ?_
      show own_Ends _ _ _ _ (T305.setTop (mkF m 95 #[.val (.int x0), .val (.int x1), .val (.int x2), .val (.int x3), .val (.int x4), .val (.int c_), .val (.int u0), .val (.int u1), .val (.int (0 : Int32)), .val (.ref b261), .val (.ref b281), .val (.int (u0 &&& (255 : Int32))), .unset, .unset, .unset] [(.int (1 : Int32))]))
      refine own_st (fun t_ => XS.goto (own_here Y306) hx rfl (pc0 := 95) (pc' := 99) rfl (hb hby at_95) (by decide) (by decide)) ?_
      show own_Ends _ _ _ _ (T305.setTop (mkF m 99 #[.val (.int x0), .val (.int x1), .val (.int x2), .val (.int x3), .val (.int x4), .val (.int c_), .val (.int u0), .val (.int u1), .val (.int (0 : Int32)), .val (.ref b261), .val (.ref b281), .val (.int (u0 &&& (255 : Int32))), .unset, .unset, .unset] [(.int (1 : Int32))]))
      refine own_st (fun t_ => XS.istore (own_here Y306) hx rfl (hb hby at_99) rfl (l' := #[.val (.int x0), .val (.int x1), .val (.int x2), .val (.int x3), .val (.int x4), .val (.int c_), .val (.int u0), .val (.int u1), .val (.int (0 : Int32)), .val (.ref b261), .val (.ref b281), .val (.int (u0 &&& (255 : Int32))), .val (.int (1 : Int32)), .unset, .unset]) rfl) ?_
      show own_Ends _ _ _ _ (T305.setTop (mkF m 101 #[.val (.int x0), .val (.int x1), .val (.int x2), .val (.int x3), .val (.int x4), .val (.int c_), .val (.int u0), .val (.int u1), .val (.int (0 : Int32)), .val (.ref b261), .val (.ref b281), .val (.int (u0 &&& (255 : Int32))), .val (.int (1 : Int32)), .unset, .unset] []))
      have heq : u0 = c_ := by have q := c91_310; rw [own_eq, own_u8] at q; rw [own_eq]; omega
      refine own_st (fun t_ => XS.aload (own_here Y306) hx rfl (hb hby at_101) rfl rfl) ?_
      show own_Ends _ _ _ _ (T305.setTop (mkF m 103 #[.val (.int x0), .val (.int x1), .val (.int x2), .val (.int x3), .val (.int x4), .val (.int c_), .val (.int u0), .val (.int u1), .val (.int (0 : Int32)), .val (.ref b261), .val (.ref b281), .val (.int (u0 &&& (255 : Int32))), .val (.int (1 : Int32)), .unset, .unset] [(.ref b281)]))
      refine own_st (fun t_ => XS.iload (own_here Y306) hx rfl (hb hby at_103) rfl) ?_
      show own_Ends _ _ _ _ (T305.setTop (mkF m 105 #[.val (.int x0), .val (.int x1), .val (.int x2), .val (.int x3), .val (.int x4), .val (.int c_), .val (.int u0), .val (.int u1), .val (.int (0 : Int32)), .val (.ref b261), .val (.ref b281), .val (.int (u0 &&& (255 : Int32))), .val (.int (1 : Int32)), .unset, .unset] [(.int c_), (.ref b281)]))
      have f311 : Exa Z h298 b281 "com/example/deft_wiring/deftwiring/context/XmlScanner" := X279.keep K301
      have f312 : own_A Z h298 b261 .byte [(.int u0), (.int u1)] := f294.keep K301 (ninS ne283 nin0)
      refine own_callV Y306 hx hZ (y := (⟨"com/example/deft_wiring/deftwiring/context/XmlScanner", "skip", "(C)Z"⟩ : MethodName)) (z := (⟨"com/example/deft_wiring/deftwiring/context/XmlScanner", "skip", "(C)Z"⟩ : MethodName)) hown (hw _ (List.mem_of_getElem? (i := 45) rfl)) (hw _ (List.mem_of_getElem? (i := 46) rfl)) (notFace_of_selects (args := #[]) (mvT hZ (hw _ (List.mem_of_getElem? (i := 48) rfl)))) (hw _ (List.mem_of_getElem? (i := 48) rfl)) (hw _ (List.mem_of_getElem? (i := 47) rfl)) (hw _ (List.mem_of_getElem? (i := 4) rfl)) (hw _ (List.mem_of_getElem? (i := 49) rfl)) (by decide) (a := b281) f311 (argsL := [(.int c_)]) (rest := []) (own_rm6_y0 l Z a0 hw [] b281 c_ b261 u0 u1 h298 n0  f311 F302 F303 F304 f312 g284 heq) (W := 0) (by decide) (by decide) (by decide) (by decide) rfl (by rw [hml]; rfl) (lenOf own_pd4 rfl) rfl (by show 2 * 0 + _ ≤ _; exact Nat.le_of_eq rfl) (hb hby at_105) (fun T313 h315 v316 Y314 q317 => ?_)
      obtain ⟨rfl, K318, F319, F320, F321⟩ := q317
      show own_Ends _ _ _ _ (T313.setTop (mkF m 108 #[.val (.int x0), .val (.int x1), .val (.int x2), .val (.int x3), .val (.int x4), .val (.int c_), .val (.int u0), .val (.int u1), .val (.int (0 : Int32)), .val (.ref b261), .val (.ref b281), .val (.int (u0 &&& (255 : Int32))), .val (.int (1 : Int32)), .unset, .unset] [(.int (1 : Int32))]))
      refine own_st (fun t_ => XS.istore (own_here Y314) hx rfl (hb hby at_108) rfl (l' := #[.val (.int x0), .val (.int x1), .val (.int x2), .val (.int x3), .val (.int x4), .val (.int c_), .val (.int u0), .val (.int u1), .val (.int (0 : Int32)), .val (.ref b261), .val (.ref b281), .val (.int (u0 &&& (255 : Int32))), .val (.int (1 : Int32)), .val (.int (1 : Int32)), .unset]) rfl) ?_
      show own_Ends _ _ _ _ (T313.setTop (mkF m 110 #[.val (.int x0), .val (.int x1), .val (.int x2), .val (.int x3), .val (.int x4), .val (.int c_), .val (.int u0), .val (.int u1), .val (.int (0 : Int32)), .val (.ref b261), .val (.ref b281), .val (.int (u0 &&& (255 : Int32))), .val (.int (1 : Int32)), .val (.int (1 : Int32)), .unset] []))
      refine own_st (fun t_ => XS.iload (own_here Y314) hx rfl (hb hby at_110) rfl) ?_
      show own_Ends _ _ _ _ (T313.setTop (mkF m 112 #[.val (.int x0), .val (.int x1), .val (.int x2), .val (.int x3), .val (.int x4), .val (.int c_), .val (.int u0), .val (.int u1), .val (.int (0 : Int32)), .val (.ref b261), .val (.ref b281), .val (.int (u0 &&& (255 : Int32))), .val (.int (1 : Int32)), .val (.int (1 : Int32)), .unset] [(.int (1 : Int32))]))
      refine own_st (fun t_ => XS.ifNo (own_here Y314) hx rfl (hb hby at_112) rfl (XT.i0_eq_f (by decide))) ?_
      show own_Ends _ _ _ _ (T313.setTop (mkF m 115 #[.val (.int x0), .val (.int x1), .val (.int x2), .val (.int x3), .val (.int x4), .val (.int c_), .val (.int u0), .val (.int u1), .val (.int (0 : Int32)), .val (.ref b261), .val (.ref b281), .val (.int (u0 &&& (255 : Int32))), .val (.int (1 : Int32)), .val (.int (1 : Int32)), .unset] []))
      refine own_st (fun t_ => XS.iload (own_here Y314) hx rfl (hb hby at_115) rfl) ?_
      show own_Ends _ _ _ _ (T313.setTop (mkF m 117 #[.val (.int x0), .val (.int x1), .val (.int x2), .val (.int x3), .val (.int x4), .val (.int c_), .val (.int u0), .val (.int u1), .val (.int (0 : Int32)), .val (.ref b261), .val (.ref b281), .val (.int (u0 &&& (255 : Int32))), .val (.int (1 : Int32)), .val (.int (1 : Int32)), .unset] [(.int (0 : Int32))]))
      refine own_st (fun t_ => XS.iconst (own_here Y314) hx rfl (hb hby at_117) ) ?_
      show own_Ends _ _ _ _ (T313.setTop (mkF m 118 #[.val (.int x0), .val (.int x1), .val (.int x2), .val (.int x3), .val (.int x4), .val (.int c_), .val (.int u0), .val (.int u1), .val (.int (0 : Int32)), .val (.ref b261), .val (.ref b281), .val (.int (u0 &&& (255 : Int32))), .val (.int (1 : Int32)), .val (.int (1 : Int32)), .unset] [(.int (1 : Int32)), (.int (0 : Int32))]))
      refine own_st (fun t_ => XS.iadd (own_here Y314) hx rfl (hb hby at_118) rfl) ?_
      show own_Ends _ _ _ _ (T313.setTop (mkF m 119 #[.val (.int x0), .val (.int x1), .val (.int x2), .val (.int x3), .val (.int x4), .val (.int c_), .val (.int u0), .val (.int u1), .val (.int (0 : Int32)), .val (.ref b261), .val (.ref b281), .val (.int (u0 &&& (255 : Int32))), .val (.int (1 : Int32)), .val (.int (1 : Int32)), .unset] [(.int (1 : Int32))]))
      refine own_st (fun t_ => XS.goto (own_here Y314) hx rfl (pc0 := 119) (pc' := 124) rfl (hb hby at_119) (by decide) (by decide)) ?_
      show own_Ends _ _ _ _ (T313.setTop (mkF m 124 #[.val (.int x0), .val (.int x1), .val (.int x2), .val (.int x3), .val (.int x4), .val (.int c_), .val (.int u0), .val (.int u1), .val (.int (0 : Int32)), .val (.ref b261), .val (.ref b281), .val (.int (u0 &&& (255 : Int32))), .val (.int (1 : Int32)), .val (.int (1 : Int32)), .unset] [(.int (1 : Int32))]))
      refine own_st (fun t_ => XS.istore (own_here Y314) hx rfl (hb hby at_124) rfl (l' := #[.val (.int x0), .val (.int x1), .val (.int x2), .val (.int x3), .val (.int x4), .val (.int c_), .val (.int u0), .val (.int u1), .val (.int (0 : Int32)), .val (.ref b261), .val (.ref b281), .val (.int (u0 &&& (255 : Int32))), .val (.int (1 : Int32)), .val (.int (1 : Int32)), .val (.int (1 : Int32))]) rfl) ?_
      show own_Ends _ _ _ _ (T313.setTop (mkF m 126 #[.val (.int x0), .val (.int x1), .val (.int x2), .val (.int x3), .val (.int x4), .val (.int c_), .val (.int u0), .val (.int u1), .val (.int (0 : Int32)), .val (.ref b261), .val (.ref b281), .val (.int (u0 &&& (255 : Int32))), .val (.int (1 : Int32)), .val (.int (1 : Int32)), .val (.int (1 : Int32))] []))
      refine own_st (fun t_ => XS.iload (own_here Y314) hx rfl (hb hby at_126) rfl) ?_
      show own_Ends _ _ _ _ (T313.setTop (mkF m 128 #[.val (.int x0), .val (.int x1), .val (.int x2), .val (.int x3), .val (.int x4), .val (.int c_), .val (.int u0), .val (.int u1), .val (.int (0 : Int32)), .val (.ref b261), .val (.ref b281), .val (.int (u0 &&& (255 : Int32))), .val (.int (1 : Int32)), .val (.int (1 : Int32)), .val (.int (1 : Int32))] [(.int (1 : Int32))]))
      refine own_st (fun t_ => XS.iload (own_here Y314) hx rfl (hb hby at_128) rfl) ?_
      show own_Ends _ _ _ _ (T313.setTop (mkF m 130 #[.val (.int x0), .val (.int x1), .val (.int x2), .val (.int x3), .val (.int x4), .val (.int c_), .val (.int u0), .val (.int u1), .val (.int (0 : Int32)), .val (.ref b261), .val (.ref b281), .val (.int (u0 &&& (255 : Int32))), .val (.int (1 : Int32)), .val (.int (1 : Int32)), .val (.int (1 : Int32))] [(.int (1 : Int32)), (.int (1 : Int32))]))
      refine own_st (fun t_ => XS.icmpNo (own_here Y314) hx rfl (hb hby at_130) rfl (XT.ii_ne_f (by decide))) ?_
      show own_Ends _ _ _ _ (T313.setTop (mkF m 133 #[.val (.int x0), .val (.int x1), .val (.int x2), .val (.int x3), .val (.int x4), .val (.int c_), .val (.int u0), .val (.int u1), .val (.int (0 : Int32)), .val (.ref b261), .val (.ref b281), .val (.int (u0 &&& (255 : Int32))), .val (.int (1 : Int32)), .val (.int (1 : Int32)), .val (.int (1 : Int32))] []))
      refine own_st (fun t_ => XS.aload (own_here Y314) hx rfl (hb hby at_133) rfl rfl) ?_
      show own_Ends _ _ _ _ (T313.setTop (mkF m 135 #[.val (.int x0), .val (.int x1), .val (.int x2), .val (.int x3), .val (.int x4), .val (.int c_), .val (.int u0), .val (.int u1), .val (.int (0 : Int32)), .val (.ref b261), .val (.ref b281), .val (.int (u0 &&& (255 : Int32))), .val (.int (1 : Int32)), .val (.int (1 : Int32)), .val (.int (1 : Int32))] [(.ref b281)]))
      have f322 : Exa Z h315 b281 "com/example/deft_wiring/deftwiring/context/XmlScanner" := f311.keep K318
      have f323 : own_A Z h315 b261 .byte [(.int u0), (.int u1)] := f312.keep K318 (ninS ne283 nin0)
      refine own_callV Y314 hx hZ (y := (⟨"com/example/deft_wiring/deftwiring/context/XmlScanner", "peek", "()I"⟩ : MethodName)) (z := (⟨"com/example/deft_wiring/deftwiring/context/XmlScanner", "peek", "()I"⟩ : MethodName)) hown (hw _ (List.mem_of_getElem? (i := 50) rfl)) (hw _ (List.mem_of_getElem? (i := 51) rfl)) (notFace_of_selects (args := #[]) (mvT hZ (hw _ (List.mem_of_getElem? (i := 53) rfl)))) (hw _ (List.mem_of_getElem? (i := 53) rfl)) (hw _ (List.mem_of_getElem? (i := 52) rfl)) (hw _ (List.mem_of_getElem? (i := 4) rfl)) (hw _ (List.mem_of_getElem? (i := 54) rfl)) (by decide) (a := b281) f322 (argsL := []) (rest := []) (own_rm7_1 l Z a0 hw [] b281 b261 u0 u1 h315 n0  f322 F319 F320 F321 f323) (W := 0) (by decide) (by decide) (by decide) (by decide) rfl (by rw [hml]; rfl) (lenOf own_pd5 rfl) rfl (by show 2 * 0 + _ ≤ _; exact Nat.le_of_eq rfl) (hb hby at_135) (fun T324 h326 v327 Y325 q328 => ?_)
      obtain ⟨rfl, rfl⟩ := q328
      show own_Ends _ _ _ _ (T324.setTop (mkF m 138 #[.val (.int x0), .val (.int x1), .val (.int x2), .val (.int x3), .val (.int x4), .val (.int c_), .val (.int u0), .val (.int u1), .val (.int (0 : Int32)), .val (.ref b261), .val (.ref b281), .val (.int (u0 &&& (255 : Int32))), .val (.int (1 : Int32)), .val (.int (1 : Int32)), .val (.int (1 : Int32))] [(.int (u1 &&& (255 : Int32)))]))
      refine own_st (fun t_ => XS.iload (own_here Y325) hx rfl (hb hby at_138) rfl) ?_
      show own_Ends _ _ _ _ (T324.setTop (mkF m 140 #[.val (.int x0), .val (.int x1), .val (.int x2), .val (.int x3), .val (.int x4), .val (.int c_), .val (.int u0), .val (.int u1), .val (.int (0 : Int32)), .val (.ref b261), .val (.ref b281), .val (.int (u0 &&& (255 : Int32))), .val (.int (1 : Int32)), .val (.int (1 : Int32)), .val (.int (1 : Int32))] [(.int u0), (.int (u1 &&& (255 : Int32)))]))
      refine own_st (fun t_ => XS.iload (own_here Y325) hx rfl (hb hby at_140) rfl) ?_
      show own_Ends _ _ _ _ (T324.setTop (mkF m 142 #[.val (.int x0), .val (.int x1), .val (.int x2), .val (.int x3), .val (.int x4), .val (.int c_), .val (.int u0), .val (.int u1), .val (.int (0 : Int32)), .val (.ref b261), .val (.ref b281), .val (.int (u0 &&& (255 : Int32))), .val (.int (1 : Int32)), .val (.int (1 : Int32)), .val (.int (1 : Int32))] [(.int u1), (.int u0), (.int (u1 &&& (255 : Int32)))]))
      refine own_st (fun t_ => XS.iload (own_here Y325) hx rfl (hb hby at_142) rfl) ?_
      show own_Ends _ _ _ _ (T324.setTop (mkF m 144 #[.val (.int x0), .val (.int x1), .val (.int x2), .val (.int x3), .val (.int x4), .val (.int c_), .val (.int u0), .val (.int u1), .val (.int (0 : Int32)), .val (.ref b261), .val (.ref b281), .val (.int (u0 &&& (255 : Int32))), .val (.int (1 : Int32)), .val (.int (1 : Int32)), .val (.int (1 : Int32))] [(.int (1 : Int32)), (.int u1), (.int u0), (.int (u1 &&& (255 : Int32)))]))
      refine own_callS Y325 hx hZ (y := (⟨"com/example/deft_wiring/deftwiring/context/XmlScannerSkipPinLaw", "at", "(BBI)I"⟩ : MethodName)) hown (hw _ (List.mem_of_getElem? (i := 41) rfl)) (hw _ (List.mem_of_getElem? (i := 42) rfl)) (hw _ (List.mem_of_getElem? (i := 43) rfl)) (hw _ (List.mem_of_getElem? (i := 44) rfl)) (by decide) (argsL := [(.int u0), (.int u1), (.int (1 : Int32))]) (rest := [(.int (u1 &&& (255 : Int32)))]) (own_rm5_1 l Z a0 hw [] u0 u1  h315 n0  ) (W := 1) (by decide) (by decide) (by decide) (by decide) rfl (by rw [hml]; rfl) (lenOf own_pd3 rfl) rfl (by show 2 * 0 + _ ≤ _; exact Nat.le_of_eq rfl) (hb hby at_144) (fun T329 h331 v332 Y330 q333 => ?_)
      obtain ⟨rfl, rfl⟩ := q333
      show own_Ends _ _ _ _ (T329.setTop (mkF m 147 #[.val (.int x0), .val (.int x1), .val (.int x2), .val (.int x3), .val (.int x4), .val (.int c_), .val (.int u0), .val (.int u1), .val (.int (0 : Int32)), .val (.ref b261), .val (.ref b281), .val (.int (u0 &&& (255 : Int32))), .val (.int (1 : Int32)), .val (.int (1 : Int32)), .val (.int (1 : Int32))] [(.int (u1 &&& (255 : Int32))), (.int (u1 &&& (255 : Int32)))]))
      refine own_st (fun t_ => XS.icmpNo (own_here Y330) hx rfl (hb hby at_147) rfl (XT.ii_ne_f rfl)) ?_
      show own_Ends _ _ _ _ (T329.setTop (mkF m 150 #[.val (.int x0), .val (.int x1), .val (.int x2), .val (.int x3), .val (.int x4), .val (.int c_), .val (.int u0), .val (.int u1), .val (.int (0 : Int32)), .val (.ref b261), .val (.ref b281), .val (.int (u0 &&& (255 : Int32))), .val (.int (1 : Int32)), .val (.int (1 : Int32)), .val (.int (1 : Int32))] []))
      refine own_st (fun t_ => XS.aload (own_here Y330) hx rfl (hb hby at_150) rfl rfl) ?_
      show own_Ends _ _ _ _ (T329.setTop (mkF m 152 #[.val (.int x0), .val (.int x1), .val (.int x2), .val (.int x3), .val (.int x4), .val (.int c_), .val (.int u0), .val (.int u1), .val (.int (0 : Int32)), .val (.ref b261), .val (.ref b281), .val (.int (u0 &&& (255 : Int32))), .val (.int (1 : Int32)), .val (.int (1 : Int32)), .val (.int (1 : Int32))] [(.ref b281)]))
      refine own_callV Y330 hx hZ (y := (⟨"com/example/deft_wiring/deftwiring/context/XmlScanner", "atEnd", "()Z"⟩ : MethodName)) (z := (⟨"com/example/deft_wiring/deftwiring/context/XmlScanner", "atEnd", "()Z"⟩ : MethodName)) hown (hw _ (List.mem_of_getElem? (i := 55) rfl)) (hw _ (List.mem_of_getElem? (i := 56) rfl)) (notFace_of_selects (args := #[]) (mvT hZ (hw _ (List.mem_of_getElem? (i := 58) rfl)))) (hw _ (List.mem_of_getElem? (i := 58) rfl)) (hw _ (List.mem_of_getElem? (i := 57) rfl)) (hw _ (List.mem_of_getElem? (i := 4) rfl)) (hw _ (List.mem_of_getElem? (i := 59) rfl)) (by decide) (a := b281) f322 (argsL := []) (rest := []) (own_rm8_1 l Z a0 hw [] b281 b261 u0 u1 h315 n0  f322 F319 F320 F321 f323) (W := 0) (by decide) (by decide) (by decide) (by decide) rfl (by rw [hml]; rfl) (lenOf own_pd6 rfl) rfl (by show 2 * 0 + _ ≤ _; exact Nat.le_of_eq rfl) (hb hby at_152) (fun T334 h336 v337 Y335 q338 => ?_)
      obtain ⟨rfl, rfl⟩ := q338
      show own_Ends _ _ _ _ (T334.setTop (mkF m 155 #[.val (.int x0), .val (.int x1), .val (.int x2), .val (.int x3), .val (.int x4), .val (.int c_), .val (.int u0), .val (.int u1), .val (.int (0 : Int32)), .val (.ref b261), .val (.ref b281), .val (.int (u0 &&& (255 : Int32))), .val (.int (1 : Int32)), .val (.int (1 : Int32)), .val (.int (1 : Int32))] [(.int (0 : Int32))]))
      refine own_st (fun t_ => XS.iload (own_here Y335) hx rfl (hb hby at_155) rfl) ?_
      show own_Ends _ _ _ _ (T334.setTop (mkF m 157 #[.val (.int x0), .val (.int x1), .val (.int x2), .val (.int x3), .val (.int x4), .val (.int c_), .val (.int u0), .val (.int u1), .val (.int (0 : Int32)), .val (.ref b261), .val (.ref b281), .val (.int (u0 &&& (255 : Int32))), .val (.int (1 : Int32)), .val (.int (1 : Int32)), .val (.int (1 : Int32))] [(.int (1 : Int32)), (.int (0 : Int32))]))
      refine own_st (fun t_ => XS.iconst (own_here Y335) hx rfl (hb hby at_157) ) ?_
      show own_Ends _ _ _ _ (T334.setTop (mkF m 158 #[.val (.int x0), .val (.int x1), .val (.int x2), .val (.int x3), .val (.int x4), .val (.int c_), .val (.int u0), .val (.int u1), .val (.int (0 : Int32)), .val (.ref b261), .val (.ref b281), .val (.int (u0 &&& (255 : Int32))), .val (.int (1 : Int32)), .val (.int (1 : Int32)), .val (.int (1 : Int32))] [(.int (2 : Int32)), (.int (1 : Int32)), (.int (0 : Int32))]))
      refine own_st (fun t_ => XS.icmpYes (own_here Y335) hx rfl (pc0 := 158) (pc' := 165) rfl (hb hby at_158) rfl (XT.ii_lt_t (by decide)) (by decide) (by decide)) ?_
      show own_Ends _ _ _ _ (T334.setTop (mkF m 165 #[.val (.int x0), .val (.int x1), .val (.int x2), .val (.int x3), .val (.int x4), .val (.int c_), .val (.int u0), .val (.int u1), .val (.int (0 : Int32)), .val (.ref b261), .val (.ref b281), .val (.int (u0 &&& (255 : Int32))), .val (.int (1 : Int32)), .val (.int (1 : Int32)), .val (.int (1 : Int32))] [(.int (0 : Int32))]))
      refine own_st (fun t_ => XS.iconst (own_here Y335) hx rfl (hb hby at_165) ) ?_
      show own_Ends _ _ _ _ (T334.setTop (mkF m 166 #[.val (.int x0), .val (.int x1), .val (.int x2), .val (.int x3), .val (.int x4), .val (.int c_), .val (.int u0), .val (.int u1), .val (.int (0 : Int32)), .val (.ref b261), .val (.ref b281), .val (.int (u0 &&& (255 : Int32))), .val (.int (1 : Int32)), .val (.int (1 : Int32)), .val (.int (1 : Int32))] [(.int (0 : Int32)), (.int (0 : Int32))]))
      refine own_st (fun t_ => XS.icmpNo (own_here Y335) hx rfl (hb hby at_166) rfl (XT.ii_ne_f (by decide))) ?_
      show own_Ends _ _ _ _ (T334.setTop (mkF m 169 #[.val (.int x0), .val (.int x1), .val (.int x2), .val (.int x3), .val (.int x4), .val (.int c_), .val (.int u0), .val (.int u1), .val (.int (0 : Int32)), .val (.ref b261), .val (.ref b281), .val (.int (u0 &&& (255 : Int32))), .val (.int (1 : Int32)), .val (.int (1 : Int32)), .val (.int (1 : Int32))] []))
      refine own_st (fun t_ => XS.aload (own_here Y335) hx rfl (hb hby at_169) rfl rfl) ?_
      show own_Ends _ _ _ _ (T334.setTop (mkF m 171 #[.val (.int x0), .val (.int x1), .val (.int x2), .val (.int x3), .val (.int x4), .val (.int c_), .val (.int u0), .val (.int u1), .val (.int (0 : Int32)), .val (.ref b261), .val (.ref b281), .val (.int (u0 &&& (255 : Int32))), .val (.int (1 : Int32)), .val (.int (1 : Int32)), .val (.int (1 : Int32))] [(.ref b261)]))
      refine own_st (fun t_ => XS.iconst (own_here Y335) hx rfl (hb hby at_171) ) ?_
      show own_Ends _ _ _ _ (T334.setTop (mkF m 172 #[.val (.int x0), .val (.int x1), .val (.int x2), .val (.int x3), .val (.int x4), .val (.int c_), .val (.int u0), .val (.int u1), .val (.int (0 : Int32)), .val (.ref b261), .val (.ref b281), .val (.int (u0 &&& (255 : Int32))), .val (.int (1 : Int32)), .val (.int (1 : Int32)), .val (.int (1 : Int32))] [(.int (0 : Int32)), (.ref b261)]))
      refine own_ldB Y335 hx hZ f323 (i := 0) (by decide) (by decide) (Nat.le_of_ble_eq_true rfl) (v := (.int u0)) rfl rfl rfl (hb hby at_172) ?_
      show own_Ends _ _ _ _ (T334.setTop (mkF m 173 #[.val (.int x0), .val (.int x1), .val (.int x2), .val (.int x3), .val (.int x4), .val (.int c_), .val (.int u0), .val (.int u1), .val (.int (0 : Int32)), .val (.ref b261), .val (.ref b281), .val (.int (u0 &&& (255 : Int32))), .val (.int (1 : Int32)), .val (.int (1 : Int32)), .val (.int (1 : Int32))] [(.int u0)]))
      refine own_st (fun t_ => XS.iload (own_here Y335) hx rfl (hb hby at_173) rfl) ?_
      show own_Ends _ _ _ _ (T334.setTop (mkF m 175 #[.val (.int x0), .val (.int x1), .val (.int x2), .val (.int x3), .val (.int x4), .val (.int c_), .val (.int u0), .val (.int u1), .val (.int (0 : Int32)), .val (.ref b261), .val (.ref b281), .val (.int (u0 &&& (255 : Int32))), .val (.int (1 : Int32)), .val (.int (1 : Int32)), .val (.int (1 : Int32))] [(.int u0), (.int u0)]))
      refine own_st (fun t_ => XS.icmpNo (own_here Y335) hx rfl (hb hby at_175) rfl (XT.ii_ne_f rfl)) ?_
      show own_Ends _ _ _ _ (T334.setTop (mkF m 178 #[.val (.int x0), .val (.int x1), .val (.int x2), .val (.int x3), .val (.int x4), .val (.int c_), .val (.int u0), .val (.int u1), .val (.int (0 : Int32)), .val (.ref b261), .val (.ref b281), .val (.int (u0 &&& (255 : Int32))), .val (.int (1 : Int32)), .val (.int (1 : Int32)), .val (.int (1 : Int32))] []))
      refine own_st (fun t_ => XS.aload (own_here Y335) hx rfl (hb hby at_178) rfl rfl) ?_
      show own_Ends _ _ _ _ (T334.setTop (mkF m 180 #[.val (.int x0), .val (.int x1), .val (.int x2), .val (.int x3), .val (.int x4), .val (.int c_), .val (.int u0), .val (.int u1), .val (.int (0 : Int32)), .val (.ref b261), .val (.ref b281), .val (.int (u0 &&& (255 : Int32))), .val (.int (1 : Int32)), .val (.int (1 : Int32)), .val (.int (1 : Int32))] [(.ref b261)]))
      refine own_st (fun t_ => XS.iconst (own_here Y335) hx rfl (hb hby at_180) ) ?_
      show own_Ends _ _ _ _ (T334.setTop (mkF m 181 #[.val (.int x0), .val (.int x1), .val (.int x2), .val (.int x3), .val (.int x4), .val (.int c_), .val (.int u0), .val (.int u1), .val (.int (0 : Int32)), .val (.ref b261), .val (.ref b281), .val (.int (u0 &&& (255 : Int32))), .val (.int (1 : Int32)), .val (.int (1 : Int32)), .val (.int (1 : Int32))] [(.int (1 : Int32)), (.ref b261)]))
      refine own_ldB Y335 hx hZ f323 (i := 1) (by decide) (by decide) (Nat.le_of_ble_eq_true rfl) (v := (.int u1)) rfl rfl rfl (hb hby at_181) ?_
      show own_Ends _ _ _ _ (T334.setTop (mkF m 182 #[.val (.int x0), .val (.int x1), .val (.int x2), .val (.int x3), .val (.int x4), .val (.int c_), .val (.int u0), .val (.int u1), .val (.int (0 : Int32)), .val (.ref b261), .val (.ref b281), .val (.int (u0 &&& (255 : Int32))), .val (.int (1 : Int32)), .val (.int (1 : Int32)), .val (.int (1 : Int32))] [(.int u1)]))
      refine own_st (fun t_ => XS.iload (own_here Y335) hx rfl (hb hby at_182) rfl) ?_
      show own_Ends _ _ _ _ (T334.setTop (mkF m 184 #[.val (.int x0), .val (.int x1), .val (.int x2), .val (.int x3), .val (.int x4), .val (.int c_), .val (.int u0), .val (.int u1), .val (.int (0 : Int32)), .val (.ref b261), .val (.ref b281), .val (.int (u0 &&& (255 : Int32))), .val (.int (1 : Int32)), .val (.int (1 : Int32)), .val (.int (1 : Int32))] [(.int u1), (.int u1)]))
      refine own_st (fun t_ => XS.icmpNo (own_here Y335) hx rfl (hb hby at_184) rfl (XT.ii_ne_f rfl)) ?_
      show own_Ends _ _ _ _ (T334.setTop (mkF m 187 #[.val (.int x0), .val (.int x1), .val (.int x2), .val (.int x3), .val (.int x4), .val (.int c_), .val (.int u0), .val (.int u1), .val (.int (0 : Int32)), .val (.ref b261), .val (.ref b281), .val (.int (u0 &&& (255 : Int32))), .val (.int (1 : Int32)), .val (.int (1 : Int32)), .val (.int (1 : Int32))] []))
      refine own_st (fun t_ => XS.iconst (own_here Y335) hx rfl (hb hby at_187) ) ?_
      show own_Ends _ _ _ _ (T334.setTop (mkF m 188 #[.val (.int x0), .val (.int x1), .val (.int x2), .val (.int x3), .val (.int x4), .val (.int c_), .val (.int u0), .val (.int u1), .val (.int (0 : Int32)), .val (.ref b261), .val (.ref b281), .val (.int (u0 &&& (255 : Int32))), .val (.int (1 : Int32)), .val (.int (1 : Int32)), .val (.int (1 : Int32))] [(.int (1 : Int32))]))
      refine own_st (fun t_ => XS.goto (own_here Y335) hx rfl (pc0 := 188) (pc' := 192) rfl (hb hby at_188) (by decide) (by decide)) ?_
      show own_Ends _ _ _ _ (T334.setTop (mkF m 192 #[.val (.int x0), .val (.int x1), .val (.int x2), .val (.int x3), .val (.int x4), .val (.int c_), .val (.int u0), .val (.int u1), .val (.int (0 : Int32)), .val (.ref b261), .val (.ref b281), .val (.int (u0 &&& (255 : Int32))), .val (.int (1 : Int32)), .val (.int (1 : Int32)), .val (.int (1 : Int32))] [(.int (1 : Int32))]))
      refine own_retN Y335 hx hlk (t := .boolean) hret (by simp) (hb hby at_192) (by decide) (by decide) ?_
      exact rfl
     ·
      refine own_st (fun t_ => XS.icmpYes (own_here Y306) hx rfl (pc0 := 91) (pc' := 98) rfl (hb hby at_91) rfl (XT.ii_ne_t c91_310) (by decide) (by decide)) ?_
      show own_Ends _ _ _ _ (T305.setTop (mkF m 98 #[.val (.int x0), .val (.int x1), .val (.int x2), .val (.int x3), .val (.int x4), .val (.int c_), .val (.int u0), .val (.int u1), .val (.int (0 : Int32)), .val (.ref b261), .val (.ref b281), .val (.int (u0 &&& (255 : Int32))), .unset, .unset, .unset] []))
      refine own_st (fun t_ => XS.iconst (own_here Y306) hx rfl (hb hby at_98) ) ?_
      show own_Ends _ _ _ _ (T305.setTop (mkF m 99 #[.val (.int x0), .val (.int x1), .val (.int x2), .val (.int x3), .val (.int x4), .val (.int c_), .val (.int u0), .val (.int u1), .val (.int (0 : Int32)), .val (.ref b261), .val (.ref b281), .val (.int (u0 &&& (255 : Int32))), .unset, .unset, .unset] [(.int (0 : Int32))]))
      refine own_st (fun t_ => XS.istore (own_here Y306) hx rfl (hb hby at_99) rfl (l' := #[.val (.int x0), .val (.int x1), .val (.int x2), .val (.int x3), .val (.int x4), .val (.int c_), .val (.int u0), .val (.int u1), .val (.int (0 : Int32)), .val (.ref b261), .val (.ref b281), .val (.int (u0 &&& (255 : Int32))), .val (.int (0 : Int32)), .unset, .unset]) rfl) ?_
      show own_Ends _ _ _ _ (T305.setTop (mkF m 101 #[.val (.int x0), .val (.int x1), .val (.int x2), .val (.int x3), .val (.int x4), .val (.int c_), .val (.int u0), .val (.int u1), .val (.int (0 : Int32)), .val (.ref b261), .val (.ref b281), .val (.int (u0 &&& (255 : Int32))), .val (.int (0 : Int32)), .unset, .unset] []))
      have heq : ¬ u0 = c_ := by have q := c91_310; rw [own_eq, own_u8] at q; rw [own_eq]; omega
      refine own_st (fun t_ => XS.aload (own_here Y306) hx rfl (hb hby at_101) rfl rfl) ?_
      show own_Ends _ _ _ _ (T305.setTop (mkF m 103 #[.val (.int x0), .val (.int x1), .val (.int x2), .val (.int x3), .val (.int x4), .val (.int c_), .val (.int u0), .val (.int u1), .val (.int (0 : Int32)), .val (.ref b261), .val (.ref b281), .val (.int (u0 &&& (255 : Int32))), .val (.int (0 : Int32)), .unset, .unset] [(.ref b281)]))
      refine own_st (fun t_ => XS.iload (own_here Y306) hx rfl (hb hby at_103) rfl) ?_
      show own_Ends _ _ _ _ (T305.setTop (mkF m 105 #[.val (.int x0), .val (.int x1), .val (.int x2), .val (.int x3), .val (.int x4), .val (.int c_), .val (.int u0), .val (.int u1), .val (.int (0 : Int32)), .val (.ref b261), .val (.ref b281), .val (.int (u0 &&& (255 : Int32))), .val (.int (0 : Int32)), .unset, .unset] [(.int c_), (.ref b281)]))
      have f339 : Exa Z h298 b281 "com/example/deft_wiring/deftwiring/context/XmlScanner" := X279.keep K301
      have f340 : own_A Z h298 b261 .byte [(.int u0), (.int u1)] := f294.keep K301 (ninS ne283 nin0)
      refine own_callV Y306 hx hZ (y := (⟨"com/example/deft_wiring/deftwiring/context/XmlScanner", "skip", "(C)Z"⟩ : MethodName)) (z := (⟨"com/example/deft_wiring/deftwiring/context/XmlScanner", "skip", "(C)Z"⟩ : MethodName)) hown (hw _ (List.mem_of_getElem? (i := 45) rfl)) (hw _ (List.mem_of_getElem? (i := 46) rfl)) (notFace_of_selects (args := #[]) (mvT hZ (hw _ (List.mem_of_getElem? (i := 48) rfl)))) (hw _ (List.mem_of_getElem? (i := 48) rfl)) (hw _ (List.mem_of_getElem? (i := 47) rfl)) (hw _ (List.mem_of_getElem? (i := 4) rfl)) (hw _ (List.mem_of_getElem? (i := 49) rfl)) (by decide) (a := b281) f339 (argsL := [(.int c_)]) (rest := []) (own_rm6_n0 l Z a0 hw [] b281 c_ b261 u0 u1 h298 n0  f339 F302 F303 F304 f340 heq) (W := 0) (by decide) (by decide) (by decide) (by decide) rfl (by rw [hml]; rfl) (lenOf own_pd4 rfl) rfl (by show 2 * 0 + _ ≤ _; exact Nat.le_of_eq rfl) (hb hby at_105) (fun T341 h343 v344 Y342 q345 => ?_)
      obtain ⟨rfl, rfl⟩ := q345
      show own_Ends _ _ _ _ (T341.setTop (mkF m 108 #[.val (.int x0), .val (.int x1), .val (.int x2), .val (.int x3), .val (.int x4), .val (.int c_), .val (.int u0), .val (.int u1), .val (.int (0 : Int32)), .val (.ref b261), .val (.ref b281), .val (.int (u0 &&& (255 : Int32))), .val (.int (0 : Int32)), .unset, .unset] [(.int (0 : Int32))]))
      refine own_st (fun t_ => XS.istore (own_here Y342) hx rfl (hb hby at_108) rfl (l' := #[.val (.int x0), .val (.int x1), .val (.int x2), .val (.int x3), .val (.int x4), .val (.int c_), .val (.int u0), .val (.int u1), .val (.int (0 : Int32)), .val (.ref b261), .val (.ref b281), .val (.int (u0 &&& (255 : Int32))), .val (.int (0 : Int32)), .val (.int (0 : Int32)), .unset]) rfl) ?_
      show own_Ends _ _ _ _ (T341.setTop (mkF m 110 #[.val (.int x0), .val (.int x1), .val (.int x2), .val (.int x3), .val (.int x4), .val (.int c_), .val (.int u0), .val (.int u1), .val (.int (0 : Int32)), .val (.ref b261), .val (.ref b281), .val (.int (u0 &&& (255 : Int32))), .val (.int (0 : Int32)), .val (.int (0 : Int32)), .unset] []))
      refine own_st (fun t_ => XS.iload (own_here Y342) hx rfl (hb hby at_110) rfl) ?_
      show own_Ends _ _ _ _ (T341.setTop (mkF m 112 #[.val (.int x0), .val (.int x1), .val (.int x2), .val (.int x3), .val (.int x4), .val (.int c_), .val (.int u0), .val (.int u1), .val (.int (0 : Int32)), .val (.ref b261), .val (.ref b281), .val (.int (u0 &&& (255 : Int32))), .val (.int (0 : Int32)), .val (.int (0 : Int32)), .unset] [(.int (0 : Int32))]))
      refine own_st (fun t_ => XS.ifYes (own_here Y342) hx rfl (pc0 := 112) (pc' := 122) rfl (hb hby at_112) rfl (XT.i0_eq_t (by decide)) (by decide) (by decide)) ?_
      show own_Ends _ _ _ _ (T341.setTop (mkF m 122 #[.val (.int x0), .val (.int x1), .val (.int x2), .val (.int x3), .val (.int x4), .val (.int c_), .val (.int u0), .val (.int u1), .val (.int (0 : Int32)), .val (.ref b261), .val (.ref b281), .val (.int (u0 &&& (255 : Int32))), .val (.int (0 : Int32)), .val (.int (0 : Int32)), .unset] []))
      refine own_st (fun t_ => XS.iload (own_here Y342) hx rfl (hb hby at_122) rfl) ?_
      show own_Ends _ _ _ _ (T341.setTop (mkF m 124 #[.val (.int x0), .val (.int x1), .val (.int x2), .val (.int x3), .val (.int x4), .val (.int c_), .val (.int u0), .val (.int u1), .val (.int (0 : Int32)), .val (.ref b261), .val (.ref b281), .val (.int (u0 &&& (255 : Int32))), .val (.int (0 : Int32)), .val (.int (0 : Int32)), .unset] [(.int (0 : Int32))]))
      refine own_st (fun t_ => XS.istore (own_here Y342) hx rfl (hb hby at_124) rfl (l' := #[.val (.int x0), .val (.int x1), .val (.int x2), .val (.int x3), .val (.int x4), .val (.int c_), .val (.int u0), .val (.int u1), .val (.int (0 : Int32)), .val (.ref b261), .val (.ref b281), .val (.int (u0 &&& (255 : Int32))), .val (.int (0 : Int32)), .val (.int (0 : Int32)), .val (.int (0 : Int32))]) rfl) ?_
      show own_Ends _ _ _ _ (T341.setTop (mkF m 126 #[.val (.int x0), .val (.int x1), .val (.int x2), .val (.int x3), .val (.int x4), .val (.int c_), .val (.int u0), .val (.int u1), .val (.int (0 : Int32)), .val (.ref b261), .val (.ref b281), .val (.int (u0 &&& (255 : Int32))), .val (.int (0 : Int32)), .val (.int (0 : Int32)), .val (.int (0 : Int32))] []))
      refine own_st (fun t_ => XS.iload (own_here Y342) hx rfl (hb hby at_126) rfl) ?_
      show own_Ends _ _ _ _ (T341.setTop (mkF m 128 #[.val (.int x0), .val (.int x1), .val (.int x2), .val (.int x3), .val (.int x4), .val (.int c_), .val (.int u0), .val (.int u1), .val (.int (0 : Int32)), .val (.ref b261), .val (.ref b281), .val (.int (u0 &&& (255 : Int32))), .val (.int (0 : Int32)), .val (.int (0 : Int32)), .val (.int (0 : Int32))] [(.int (0 : Int32))]))
      refine own_st (fun t_ => XS.iload (own_here Y342) hx rfl (hb hby at_128) rfl) ?_
      show own_Ends _ _ _ _ (T341.setTop (mkF m 130 #[.val (.int x0), .val (.int x1), .val (.int x2), .val (.int x3), .val (.int x4), .val (.int c_), .val (.int u0), .val (.int u1), .val (.int (0 : Int32)), .val (.ref b261), .val (.ref b281), .val (.int (u0 &&& (255 : Int32))), .val (.int (0 : Int32)), .val (.int (0 : Int32)), .val (.int (0 : Int32))] [(.int (0 : Int32)), (.int (0 : Int32))]))
      refine own_st (fun t_ => XS.icmpNo (own_here Y342) hx rfl (hb hby at_130) rfl (XT.ii_ne_f (by decide))) ?_
      show own_Ends _ _ _ _ (T341.setTop (mkF m 133 #[.val (.int x0), .val (.int x1), .val (.int x2), .val (.int x3), .val (.int x4), .val (.int c_), .val (.int u0), .val (.int u1), .val (.int (0 : Int32)), .val (.ref b261), .val (.ref b281), .val (.int (u0 &&& (255 : Int32))), .val (.int (0 : Int32)), .val (.int (0 : Int32)), .val (.int (0 : Int32))] []))
      refine own_st (fun t_ => XS.aload (own_here Y342) hx rfl (hb hby at_133) rfl rfl) ?_
      show own_Ends _ _ _ _ (T341.setTop (mkF m 135 #[.val (.int x0), .val (.int x1), .val (.int x2), .val (.int x3), .val (.int x4), .val (.int c_), .val (.int u0), .val (.int u1), .val (.int (0 : Int32)), .val (.ref b261), .val (.ref b281), .val (.int (u0 &&& (255 : Int32))), .val (.int (0 : Int32)), .val (.int (0 : Int32)), .val (.int (0 : Int32))] [(.ref b281)]))
      refine own_callV Y342 hx hZ (y := (⟨"com/example/deft_wiring/deftwiring/context/XmlScanner", "peek", "()I"⟩ : MethodName)) (z := (⟨"com/example/deft_wiring/deftwiring/context/XmlScanner", "peek", "()I"⟩ : MethodName)) hown (hw _ (List.mem_of_getElem? (i := 50) rfl)) (hw _ (List.mem_of_getElem? (i := 51) rfl)) (notFace_of_selects (args := #[]) (mvT hZ (hw _ (List.mem_of_getElem? (i := 53) rfl)))) (hw _ (List.mem_of_getElem? (i := 53) rfl)) (hw _ (List.mem_of_getElem? (i := 52) rfl)) (hw _ (List.mem_of_getElem? (i := 4) rfl)) (hw _ (List.mem_of_getElem? (i := 54) rfl)) (by decide) (a := b281) f339 (argsL := []) (rest := []) (own_rm7_0 l Z a0 hw [] b281 b261 u0 u1 h298 n0  f339 F302 F303 F304 f340) (W := 0) (by decide) (by decide) (by decide) (by decide) rfl (by rw [hml]; rfl) (lenOf own_pd5 rfl) rfl (by show 2 * 0 + _ ≤ _; exact Nat.le_of_eq rfl) (hb hby at_135) (fun T346 h348 v349 Y347 q350 => ?_)
      obtain ⟨rfl, rfl⟩ := q350
      show own_Ends _ _ _ _ (T346.setTop (mkF m 138 #[.val (.int x0), .val (.int x1), .val (.int x2), .val (.int x3), .val (.int x4), .val (.int c_), .val (.int u0), .val (.int u1), .val (.int (0 : Int32)), .val (.ref b261), .val (.ref b281), .val (.int (u0 &&& (255 : Int32))), .val (.int (0 : Int32)), .val (.int (0 : Int32)), .val (.int (0 : Int32))] [(.int (u0 &&& (255 : Int32)))]))
      refine own_st (fun t_ => XS.iload (own_here Y347) hx rfl (hb hby at_138) rfl) ?_
      show own_Ends _ _ _ _ (T346.setTop (mkF m 140 #[.val (.int x0), .val (.int x1), .val (.int x2), .val (.int x3), .val (.int x4), .val (.int c_), .val (.int u0), .val (.int u1), .val (.int (0 : Int32)), .val (.ref b261), .val (.ref b281), .val (.int (u0 &&& (255 : Int32))), .val (.int (0 : Int32)), .val (.int (0 : Int32)), .val (.int (0 : Int32))] [(.int u0), (.int (u0 &&& (255 : Int32)))]))
      refine own_st (fun t_ => XS.iload (own_here Y347) hx rfl (hb hby at_140) rfl) ?_
      show own_Ends _ _ _ _ (T346.setTop (mkF m 142 #[.val (.int x0), .val (.int x1), .val (.int x2), .val (.int x3), .val (.int x4), .val (.int c_), .val (.int u0), .val (.int u1), .val (.int (0 : Int32)), .val (.ref b261), .val (.ref b281), .val (.int (u0 &&& (255 : Int32))), .val (.int (0 : Int32)), .val (.int (0 : Int32)), .val (.int (0 : Int32))] [(.int u1), (.int u0), (.int (u0 &&& (255 : Int32)))]))
      refine own_st (fun t_ => XS.iload (own_here Y347) hx rfl (hb hby at_142) rfl) ?_
      show own_Ends _ _ _ _ (T346.setTop (mkF m 144 #[.val (.int x0), .val (.int x1), .val (.int x2), .val (.int x3), .val (.int x4), .val (.int c_), .val (.int u0), .val (.int u1), .val (.int (0 : Int32)), .val (.ref b261), .val (.ref b281), .val (.int (u0 &&& (255 : Int32))), .val (.int (0 : Int32)), .val (.int (0 : Int32)), .val (.int (0 : Int32))] [(.int (0 : Int32)), (.int u1), (.int u0), (.int (u0 &&& (255 : Int32)))]))
      refine own_callS Y347 hx hZ (y := (⟨"com/example/deft_wiring/deftwiring/context/XmlScannerSkipPinLaw", "at", "(BBI)I"⟩ : MethodName)) hown (hw _ (List.mem_of_getElem? (i := 41) rfl)) (hw _ (List.mem_of_getElem? (i := 42) rfl)) (hw _ (List.mem_of_getElem? (i := 43) rfl)) (hw _ (List.mem_of_getElem? (i := 44) rfl)) (by decide) (argsL := [(.int u0), (.int u1), (.int (0 : Int32))]) (rest := [(.int (u0 &&& (255 : Int32)))]) (own_rm5_0 l Z a0 hw [] u0 u1  h298 n0  ) (W := 1) (by decide) (by decide) (by decide) (by decide) rfl (by rw [hml]; rfl) (lenOf own_pd3 rfl) rfl (by show 2 * 0 + _ ≤ _; exact Nat.le_of_eq rfl) (hb hby at_144) (fun T351 h353 v354 Y352 q355 => ?_)
      obtain ⟨rfl, rfl⟩ := q355
      show own_Ends _ _ _ _ (T351.setTop (mkF m 147 #[.val (.int x0), .val (.int x1), .val (.int x2), .val (.int x3), .val (.int x4), .val (.int c_), .val (.int u0), .val (.int u1), .val (.int (0 : Int32)), .val (.ref b261), .val (.ref b281), .val (.int (u0 &&& (255 : Int32))), .val (.int (0 : Int32)), .val (.int (0 : Int32)), .val (.int (0 : Int32))] [(.int (u0 &&& (255 : Int32))), (.int (u0 &&& (255 : Int32)))]))
      refine own_st (fun t_ => XS.icmpNo (own_here Y352) hx rfl (hb hby at_147) rfl (XT.ii_ne_f rfl)) ?_
      show own_Ends _ _ _ _ (T351.setTop (mkF m 150 #[.val (.int x0), .val (.int x1), .val (.int x2), .val (.int x3), .val (.int x4), .val (.int c_), .val (.int u0), .val (.int u1), .val (.int (0 : Int32)), .val (.ref b261), .val (.ref b281), .val (.int (u0 &&& (255 : Int32))), .val (.int (0 : Int32)), .val (.int (0 : Int32)), .val (.int (0 : Int32))] []))
      refine own_st (fun t_ => XS.aload (own_here Y352) hx rfl (hb hby at_150) rfl rfl) ?_
      show own_Ends _ _ _ _ (T351.setTop (mkF m 152 #[.val (.int x0), .val (.int x1), .val (.int x2), .val (.int x3), .val (.int x4), .val (.int c_), .val (.int u0), .val (.int u1), .val (.int (0 : Int32)), .val (.ref b261), .val (.ref b281), .val (.int (u0 &&& (255 : Int32))), .val (.int (0 : Int32)), .val (.int (0 : Int32)), .val (.int (0 : Int32))] [(.ref b281)]))
      refine own_callV Y352 hx hZ (y := (⟨"com/example/deft_wiring/deftwiring/context/XmlScanner", "atEnd", "()Z"⟩ : MethodName)) (z := (⟨"com/example/deft_wiring/deftwiring/context/XmlScanner", "atEnd", "()Z"⟩ : MethodName)) hown (hw _ (List.mem_of_getElem? (i := 55) rfl)) (hw _ (List.mem_of_getElem? (i := 56) rfl)) (notFace_of_selects (args := #[]) (mvT hZ (hw _ (List.mem_of_getElem? (i := 58) rfl)))) (hw _ (List.mem_of_getElem? (i := 58) rfl)) (hw _ (List.mem_of_getElem? (i := 57) rfl)) (hw _ (List.mem_of_getElem? (i := 4) rfl)) (hw _ (List.mem_of_getElem? (i := 59) rfl)) (by decide) (a := b281) f339 (argsL := []) (rest := []) (own_rm8_0 l Z a0 hw [] b281 b261 u0 u1 h298 n0  f339 F302 F303 F304 f340) (W := 0) (by decide) (by decide) (by decide) (by decide) rfl (by rw [hml]; rfl) (lenOf own_pd6 rfl) rfl (by show 2 * 0 + _ ≤ _; exact Nat.le_of_eq rfl) (hb hby at_152) (fun T356 h358 v359 Y357 q360 => ?_)
      obtain ⟨rfl, rfl⟩ := q360
      show own_Ends _ _ _ _ (T356.setTop (mkF m 155 #[.val (.int x0), .val (.int x1), .val (.int x2), .val (.int x3), .val (.int x4), .val (.int c_), .val (.int u0), .val (.int u1), .val (.int (0 : Int32)), .val (.ref b261), .val (.ref b281), .val (.int (u0 &&& (255 : Int32))), .val (.int (0 : Int32)), .val (.int (0 : Int32)), .val (.int (0 : Int32))] [(.int (0 : Int32))]))
      refine own_st (fun t_ => XS.iload (own_here Y357) hx rfl (hb hby at_155) rfl) ?_
      show own_Ends _ _ _ _ (T356.setTop (mkF m 157 #[.val (.int x0), .val (.int x1), .val (.int x2), .val (.int x3), .val (.int x4), .val (.int c_), .val (.int u0), .val (.int u1), .val (.int (0 : Int32)), .val (.ref b261), .val (.ref b281), .val (.int (u0 &&& (255 : Int32))), .val (.int (0 : Int32)), .val (.int (0 : Int32)), .val (.int (0 : Int32))] [(.int (0 : Int32)), (.int (0 : Int32))]))
      refine own_st (fun t_ => XS.iconst (own_here Y357) hx rfl (hb hby at_157) ) ?_
      show own_Ends _ _ _ _ (T356.setTop (mkF m 158 #[.val (.int x0), .val (.int x1), .val (.int x2), .val (.int x3), .val (.int x4), .val (.int c_), .val (.int u0), .val (.int u1), .val (.int (0 : Int32)), .val (.ref b261), .val (.ref b281), .val (.int (u0 &&& (255 : Int32))), .val (.int (0 : Int32)), .val (.int (0 : Int32)), .val (.int (0 : Int32))] [(.int (2 : Int32)), (.int (0 : Int32)), (.int (0 : Int32))]))
      refine own_st (fun t_ => XS.icmpYes (own_here Y357) hx rfl (pc0 := 158) (pc' := 165) rfl (hb hby at_158) rfl (XT.ii_lt_t (by decide)) (by decide) (by decide)) ?_
      show own_Ends _ _ _ _ (T356.setTop (mkF m 165 #[.val (.int x0), .val (.int x1), .val (.int x2), .val (.int x3), .val (.int x4), .val (.int c_), .val (.int u0), .val (.int u1), .val (.int (0 : Int32)), .val (.ref b261), .val (.ref b281), .val (.int (u0 &&& (255 : Int32))), .val (.int (0 : Int32)), .val (.int (0 : Int32)), .val (.int (0 : Int32))] [(.int (0 : Int32))]))
      refine own_st (fun t_ => XS.iconst (own_here Y357) hx rfl (hb hby at_165) ) ?_
      show own_Ends _ _ _ _ (T356.setTop (mkF m 166 #[.val (.int x0), .val (.int x1), .val (.int x2), .val (.int x3), .val (.int x4), .val (.int c_), .val (.int u0), .val (.int u1), .val (.int (0 : Int32)), .val (.ref b261), .val (.ref b281), .val (.int (u0 &&& (255 : Int32))), .val (.int (0 : Int32)), .val (.int (0 : Int32)), .val (.int (0 : Int32))] [(.int (0 : Int32)), (.int (0 : Int32))]))
      refine own_st (fun t_ => XS.icmpNo (own_here Y357) hx rfl (hb hby at_166) rfl (XT.ii_ne_f (by decide))) ?_
      show own_Ends _ _ _ _ (T356.setTop (mkF m 169 #[.val (.int x0), .val (.int x1), .val (.int x2), .val (.int x3), .val (.int x4), .val (.int c_), .val (.int u0), .val (.int u1), .val (.int (0 : Int32)), .val (.ref b261), .val (.ref b281), .val (.int (u0 &&& (255 : Int32))), .val (.int (0 : Int32)), .val (.int (0 : Int32)), .val (.int (0 : Int32))] []))
      refine own_st (fun t_ => XS.aload (own_here Y357) hx rfl (hb hby at_169) rfl rfl) ?_
      show own_Ends _ _ _ _ (T356.setTop (mkF m 171 #[.val (.int x0), .val (.int x1), .val (.int x2), .val (.int x3), .val (.int x4), .val (.int c_), .val (.int u0), .val (.int u1), .val (.int (0 : Int32)), .val (.ref b261), .val (.ref b281), .val (.int (u0 &&& (255 : Int32))), .val (.int (0 : Int32)), .val (.int (0 : Int32)), .val (.int (0 : Int32))] [(.ref b261)]))
      refine own_st (fun t_ => XS.iconst (own_here Y357) hx rfl (hb hby at_171) ) ?_
      show own_Ends _ _ _ _ (T356.setTop (mkF m 172 #[.val (.int x0), .val (.int x1), .val (.int x2), .val (.int x3), .val (.int x4), .val (.int c_), .val (.int u0), .val (.int u1), .val (.int (0 : Int32)), .val (.ref b261), .val (.ref b281), .val (.int (u0 &&& (255 : Int32))), .val (.int (0 : Int32)), .val (.int (0 : Int32)), .val (.int (0 : Int32))] [(.int (0 : Int32)), (.ref b261)]))
      refine own_ldB Y357 hx hZ f340 (i := 0) (by decide) (by decide) (Nat.le_of_ble_eq_true rfl) (v := (.int u0)) rfl rfl rfl (hb hby at_172) ?_
      show own_Ends _ _ _ _ (T356.setTop (mkF m 173 #[.val (.int x0), .val (.int x1), .val (.int x2), .val (.int x3), .val (.int x4), .val (.int c_), .val (.int u0), .val (.int u1), .val (.int (0 : Int32)), .val (.ref b261), .val (.ref b281), .val (.int (u0 &&& (255 : Int32))), .val (.int (0 : Int32)), .val (.int (0 : Int32)), .val (.int (0 : Int32))] [(.int u0)]))
      refine own_st (fun t_ => XS.iload (own_here Y357) hx rfl (hb hby at_173) rfl) ?_
      show own_Ends _ _ _ _ (T356.setTop (mkF m 175 #[.val (.int x0), .val (.int x1), .val (.int x2), .val (.int x3), .val (.int x4), .val (.int c_), .val (.int u0), .val (.int u1), .val (.int (0 : Int32)), .val (.ref b261), .val (.ref b281), .val (.int (u0 &&& (255 : Int32))), .val (.int (0 : Int32)), .val (.int (0 : Int32)), .val (.int (0 : Int32))] [(.int u0), (.int u0)]))
      refine own_st (fun t_ => XS.icmpNo (own_here Y357) hx rfl (hb hby at_175) rfl (XT.ii_ne_f rfl)) ?_
      show own_Ends _ _ _ _ (T356.setTop (mkF m 178 #[.val (.int x0), .val (.int x1), .val (.int x2), .val (.int x3), .val (.int x4), .val (.int c_), .val (.int u0), .val (.int u1), .val (.int (0 : Int32)), .val (.ref b261), .val (.ref b281), .val (.int (u0 &&& (255 : Int32))), .val (.int (0 : Int32)), .val (.int (0 : Int32)), .val (.int (0 : Int32))] []))
      refine own_st (fun t_ => XS.aload (own_here Y357) hx rfl (hb hby at_178) rfl rfl) ?_
      show own_Ends _ _ _ _ (T356.setTop (mkF m 180 #[.val (.int x0), .val (.int x1), .val (.int x2), .val (.int x3), .val (.int x4), .val (.int c_), .val (.int u0), .val (.int u1), .val (.int (0 : Int32)), .val (.ref b261), .val (.ref b281), .val (.int (u0 &&& (255 : Int32))), .val (.int (0 : Int32)), .val (.int (0 : Int32)), .val (.int (0 : Int32))] [(.ref b261)]))
      refine own_st (fun t_ => XS.iconst (own_here Y357) hx rfl (hb hby at_180) ) ?_
      show own_Ends _ _ _ _ (T356.setTop (mkF m 181 #[.val (.int x0), .val (.int x1), .val (.int x2), .val (.int x3), .val (.int x4), .val (.int c_), .val (.int u0), .val (.int u1), .val (.int (0 : Int32)), .val (.ref b261), .val (.ref b281), .val (.int (u0 &&& (255 : Int32))), .val (.int (0 : Int32)), .val (.int (0 : Int32)), .val (.int (0 : Int32))] [(.int (1 : Int32)), (.ref b261)]))
      refine own_ldB Y357 hx hZ f340 (i := 1) (by decide) (by decide) (Nat.le_of_ble_eq_true rfl) (v := (.int u1)) rfl rfl rfl (hb hby at_181) ?_
      show own_Ends _ _ _ _ (T356.setTop (mkF m 182 #[.val (.int x0), .val (.int x1), .val (.int x2), .val (.int x3), .val (.int x4), .val (.int c_), .val (.int u0), .val (.int u1), .val (.int (0 : Int32)), .val (.ref b261), .val (.ref b281), .val (.int (u0 &&& (255 : Int32))), .val (.int (0 : Int32)), .val (.int (0 : Int32)), .val (.int (0 : Int32))] [(.int u1)]))
      refine own_st (fun t_ => XS.iload (own_here Y357) hx rfl (hb hby at_182) rfl) ?_
      show own_Ends _ _ _ _ (T356.setTop (mkF m 184 #[.val (.int x0), .val (.int x1), .val (.int x2), .val (.int x3), .val (.int x4), .val (.int c_), .val (.int u0), .val (.int u1), .val (.int (0 : Int32)), .val (.ref b261), .val (.ref b281), .val (.int (u0 &&& (255 : Int32))), .val (.int (0 : Int32)), .val (.int (0 : Int32)), .val (.int (0 : Int32))] [(.int u1), (.int u1)]))
      refine own_st (fun t_ => XS.icmpNo (own_here Y357) hx rfl (hb hby at_184) rfl (XT.ii_ne_f rfl)) ?_
      show own_Ends _ _ _ _ (T356.setTop (mkF m 187 #[.val (.int x0), .val (.int x1), .val (.int x2), .val (.int x3), .val (.int x4), .val (.int c_), .val (.int u0), .val (.int u1), .val (.int (0 : Int32)), .val (.ref b261), .val (.ref b281), .val (.int (u0 &&& (255 : Int32))), .val (.int (0 : Int32)), .val (.int (0 : Int32)), .val (.int (0 : Int32))] []))
      refine own_st (fun t_ => XS.iconst (own_here Y357) hx rfl (hb hby at_187) ) ?_
      show own_Ends _ _ _ _ (T356.setTop (mkF m 188 #[.val (.int x0), .val (.int x1), .val (.int x2), .val (.int x3), .val (.int x4), .val (.int c_), .val (.int u0), .val (.int u1), .val (.int (0 : Int32)), .val (.ref b261), .val (.ref b281), .val (.int (u0 &&& (255 : Int32))), .val (.int (0 : Int32)), .val (.int (0 : Int32)), .val (.int (0 : Int32))] [(.int (1 : Int32))]))
      refine own_st (fun t_ => XS.goto (own_here Y357) hx rfl (pc0 := 188) (pc' := 192) rfl (hb hby at_188) (by decide) (by decide)) ?_
      show own_Ends _ _ _ _ (T356.setTop (mkF m 192 #[.val (.int x0), .val (.int x1), .val (.int x2), .val (.int x3), .val (.int x4), .val (.int c_), .val (.int u0), .val (.int u1), .val (.int (0 : Int32)), .val (.ref b261), .val (.ref b281), .val (.int (u0 &&& (255 : Int32))), .val (.int (0 : Int32)), .val (.int (0 : Int32)), .val (.int (0 : Int32))] [(.int (1 : Int32))]))
      refine own_retN Y357 hx hlk (t := .boolean) hret (by simp) (hb hby at_192) (by decide) (by decide) ?_
      exact rfl
    ·
     show own_Ends _ _ _ _ (T254.setTop (mkF m 48 #[.val (.int x0), .val (.int x1), .val (.int x2), .val (.int x3), .val (.int x4), .val (.int c_), .val (.int u0), .val (.int u1), .val (.int (1 : Int32)), .unset, .unset, .unset, .unset, .unset, .unset] []))
     refine own_st (fun t_ => XS.iconst (own_here Y255) hx rfl (hb hby at_48) ) ?_
     show own_Ends _ _ _ _ (T254.setTop (mkF m 49 #[.val (.int x0), .val (.int x1), .val (.int x2), .val (.int x3), .val (.int x4), .val (.int c_), .val (.int u0), .val (.int u1), .val (.int (1 : Int32)), .unset, .unset, .unset, .unset, .unset, .unset] [(.int (2 : Int32))]))
     refine own_newP Y255 hx hZ (hw _ (List.mem_of_getElem? (i := 1) rfl)) rfl (hb hby at_49) rfl (by decide) (nz := 2) (cap := 2) (by decide) (by decide) (by decide) (by decide) (by decide) (ty := .byte) rfl (fun T361 h363 b366 eb367 Y362 E364 A365 => ?_)
     have g368 : n0 ≤ b366 := by rw [eb367]; exact Z0
     replace A365 : own_A Z h363 b366 .byte [(.int (0 : Int32)), (.int (0 : Int32))] := A365
     show own_Ends _ _ _ _ (T361.setTop (mkF m 51 #[.val (.int x0), .val (.int x1), .val (.int x2), .val (.int x3), .val (.int x4), .val (.int c_), .val (.int u0), .val (.int u1), .val (.int (1 : Int32)), .unset, .unset, .unset, .unset, .unset, .unset] [(.ref b366)]))
     refine own_st (fun t_ => XS.dup (own_here Y362) hx rfl (hb hby at_51) rfl rfl) ?_
     show own_Ends _ _ _ _ (T361.setTop (mkF m 52 #[.val (.int x0), .val (.int x1), .val (.int x2), .val (.int x3), .val (.int x4), .val (.int c_), .val (.int u0), .val (.int u1), .val (.int (1 : Int32)), .unset, .unset, .unset, .unset, .unset, .unset] [(.ref b366), (.ref b366)]))
     refine own_st (fun t_ => XS.iconst (own_here Y362) hx rfl (hb hby at_52) ) ?_
     show own_Ends _ _ _ _ (T361.setTop (mkF m 53 #[.val (.int x0), .val (.int x1), .val (.int x2), .val (.int x3), .val (.int x4), .val (.int c_), .val (.int u0), .val (.int u1), .val (.int (1 : Int32)), .unset, .unset, .unset, .unset, .unset, .unset] [(.int (0 : Int32)), (.ref b366), (.ref b366)]))
     refine own_st (fun t_ => XS.iload (own_here Y362) hx rfl (hb hby at_53) rfl) ?_
     show own_Ends _ _ _ _ (T361.setTop (mkF m 55 #[.val (.int x0), .val (.int x1), .val (.int x2), .val (.int x3), .val (.int x4), .val (.int c_), .val (.int u0), .val (.int u1), .val (.int (1 : Int32)), .unset, .unset, .unset, .unset, .unset, .unset] [(.int u0), (.int (0 : Int32)), (.ref b366), (.ref b366)]))
     refine own_stB Y362 hx hZ A365 g368 (i := 0) (by decide) (by decide) (Nat.le_of_ble_eq_true rfl) rfl rfl (hb hby at_55) (fun T369 h371 Y370 W372 A373 => ?_)
     replace A373 : own_A Z h371 b366 .byte [(.int (u0.toInt8.toInt32)), (.int (0 : Int32))] := A373
     show own_Ends _ _ _ _ (T369.setTop (mkF m 56 #[.val (.int x0), .val (.int x1), .val (.int x2), .val (.int x3), .val (.int x4), .val (.int c_), .val (.int u0), .val (.int u1), .val (.int (1 : Int32)), .unset, .unset, .unset, .unset, .unset, .unset] [(.ref b366)]))
     refine own_st (fun t_ => XS.dup (own_here Y370) hx rfl (hb hby at_56) rfl rfl) ?_
     show own_Ends _ _ _ _ (T369.setTop (mkF m 57 #[.val (.int x0), .val (.int x1), .val (.int x2), .val (.int x3), .val (.int x4), .val (.int c_), .val (.int u0), .val (.int u1), .val (.int (1 : Int32)), .unset, .unset, .unset, .unset, .unset, .unset] [(.ref b366), (.ref b366)]))
     refine own_st (fun t_ => XS.iconst (own_here Y370) hx rfl (hb hby at_57) ) ?_
     show own_Ends _ _ _ _ (T369.setTop (mkF m 58 #[.val (.int x0), .val (.int x1), .val (.int x2), .val (.int x3), .val (.int x4), .val (.int c_), .val (.int u0), .val (.int u1), .val (.int (1 : Int32)), .unset, .unset, .unset, .unset, .unset, .unset] [(.int (1 : Int32)), (.ref b366), (.ref b366)]))
     refine own_st (fun t_ => XS.iload (own_here Y370) hx rfl (hb hby at_58) rfl) ?_
     show own_Ends _ _ _ _ (T369.setTop (mkF m 60 #[.val (.int x0), .val (.int x1), .val (.int x2), .val (.int x3), .val (.int x4), .val (.int c_), .val (.int u0), .val (.int u1), .val (.int (1 : Int32)), .unset, .unset, .unset, .unset, .unset, .unset] [(.int u1), (.int (1 : Int32)), (.ref b366), (.ref b366)]))
     refine own_stB Y370 hx hZ A373 g368 (i := 1) (by decide) (by decide) (Nat.le_of_ble_eq_true rfl) rfl rfl (hb hby at_60) (fun T374 h376 Y375 W377 A378 => ?_)
     replace A378 : own_A Z h376 b366 .byte [(.int (u0.toInt8.toInt32)), (.int (u1.toInt8.toInt32))] := A378
     show own_Ends _ _ _ _ (T374.setTop (mkF m 61 #[.val (.int x0), .val (.int x1), .val (.int x2), .val (.int x3), .val (.int x4), .val (.int c_), .val (.int u0), .val (.int u1), .val (.int (1 : Int32)), .unset, .unset, .unset, .unset, .unset, .unset] [(.ref b366)]))
     have A379 : own_A Z h376 b366 .byte [(.int u0), (.int u1)] := by have q := A378; rw [own_byte hu0, own_byte hu1] at q; exact q
     refine own_st (fun t_ => XS.astore (own_here Y375) hx rfl (hb hby at_61) rfl rfl (l' := #[.val (.int x0), .val (.int x1), .val (.int x2), .val (.int x3), .val (.int x4), .val (.int c_), .val (.int u0), .val (.int u1), .val (.int (1 : Int32)), .val (.ref b366), .unset, .unset, .unset, .unset, .unset]) rfl) ?_
     show own_Ends _ _ _ _ (T374.setTop (mkF m 63 #[.val (.int x0), .val (.int x1), .val (.int x2), .val (.int x3), .val (.int x4), .val (.int c_), .val (.int u0), .val (.int u1), .val (.int (1 : Int32)), .val (.ref b366), .unset, .unset, .unset, .unset, .unset] []))
     refine own_new Y375 hx hZ hown (hw _ (List.mem_of_getElem? (i := 2) rfl)) (hw _ (List.mem_of_getElem? (i := 3) rfl)) (hw _ (List.mem_of_getElem? (i := 4) rfl)) rfl (hb hby at_63) (by decide) (by decide) (fun T380 h382 b386 eb387 Y381 E383 X384 D385 => ?_)
     have ne388 : b366 ≠ b386 := Nat.ne_of_lt (by rw [eb387]; exact A379.lt)
     have z390 : n0 ≤ h363.size := Nat.le_trans Z0 E364.1
     have z391 : n0 ≤ h371.size := Nat.le_trans z390 (Nat.le_of_eq W372.size.symm)
     have z392 : n0 ≤ h376.size := Nat.le_trans z391 (Nat.le_of_eq W377.size.symm)
     have g389 : n0 ≤ b386 := by rw [eb387]; exact z392
     have F393 : Fld Z h382 b386 "com/example/deft_wiring/deftwiring/context/XmlScanner" "bytes" "[B" .null := D385 _ _ _ (.array .byte) (Or.inr (hw _ (List.mem_of_getElem? (i := 30) rfl))) (by decide)
     have F394 : Fld Z h382 b386 "com/example/deft_wiring/deftwiring/context/XmlScanner" "end" "I" (.int (0 : Int32)) := D385 _ _ _ .int (Or.inr (hw _ (List.mem_of_getElem? (i := 32) rfl))) (by decide)
     have F395 : Fld Z h382 b386 "com/example/deft_wiring/deftwiring/context/XmlScanner" "document" "[B" .null := D385 _ _ _ (.array .byte) (Or.inr (hw _ (List.mem_of_getElem? (i := 34) rfl))) (by decide)
     have F396 : Fld Z h382 b386 "com/example/deft_wiring/deftwiring/context/XmlScanner" "referenceEnd" "I" (.int (0 : Int32)) := D385 _ _ _ .int (Or.inr (hw _ (List.mem_of_getElem? (i := 36) rfl))) (by decide)
     have F397 : Fld Z h382 b386 "com/example/deft_wiring/deftwiring/context/XmlScanner" "names" "Lcom/example/deft_wiring/deftwiring/context/XmlScanner$Names;" .null := D385 _ _ _ (.object "com/example/deft_wiring/deftwiring/context/XmlScanner$Names") (Or.inr (hw _ (List.mem_of_getElem? (i := 38) rfl))) (by decide)
     have F398 : Fld Z h382 b386 "com/example/deft_wiring/deftwiring/context/XmlScanner" "pos" "I" (.int (0 : Int32)) := D385 _ _ _ .int (Or.inl (hw _ (List.mem_of_getElem? (i := 40) rfl))) (by decide)
     show own_Ends _ _ _ _ (T380.setTop (mkF m 66 #[.val (.int x0), .val (.int x1), .val (.int x2), .val (.int x3), .val (.int x4), .val (.int c_), .val (.int u0), .val (.int u1), .val (.int (1 : Int32)), .val (.ref b366), .unset, .unset, .unset, .unset, .unset] [(.ref b386)]))
     refine own_st (fun t_ => XS.dup (own_here Y381) hx rfl (hb hby at_66) rfl rfl) ?_
     show own_Ends _ _ _ _ (T380.setTop (mkF m 67 #[.val (.int x0), .val (.int x1), .val (.int x2), .val (.int x3), .val (.int x4), .val (.int c_), .val (.int u0), .val (.int u1), .val (.int (1 : Int32)), .val (.ref b366), .unset, .unset, .unset, .unset, .unset] [(.ref b386), (.ref b386)]))
     refine own_st (fun t_ => XS.aload (own_here Y381) hx rfl (hb hby at_67) rfl rfl) ?_
     show own_Ends _ _ _ _ (T380.setTop (mkF m 69 #[.val (.int x0), .val (.int x1), .val (.int x2), .val (.int x3), .val (.int x4), .val (.int c_), .val (.int u0), .val (.int u1), .val (.int (1 : Int32)), .val (.ref b366), .unset, .unset, .unset, .unset, .unset] [(.ref b366), (.ref b386), (.ref b386)]))
     refine own_st (fun t_ => XS.iload (own_here Y381) hx rfl (hb hby at_69) rfl) ?_
     show own_Ends _ _ _ _ (T380.setTop (mkF m 71 #[.val (.int x0), .val (.int x1), .val (.int x2), .val (.int x3), .val (.int x4), .val (.int c_), .val (.int u0), .val (.int u1), .val (.int (1 : Int32)), .val (.ref b366), .unset, .unset, .unset, .unset, .unset] [(.int (1 : Int32)), (.ref b366), (.ref b386), (.ref b386)]))
     have f399 : own_A Z h382 b366 .byte [(.int u0), (.int u1)] := A379.ext E383
     have z400 : n0 ≤ h382.size := Nat.le_trans z392 E383.1
     refine own_callN Y381 hx hZ (y := (⟨"com/example/deft_wiring/deftwiring/context/XmlScanner", "<init>", "([BI)V"⟩ : MethodName)) rfl hown (hw _ (List.mem_of_getElem? (i := 5) rfl)) (hw _ (List.mem_of_getElem? (i := 6) rfl)) (hw _ (List.mem_of_getElem? (i := 4) rfl)) (hw _ (List.mem_of_getElem? (i := 7) rfl)) (by decide) (a := b386) (argsL := [(.ref b366), (.int (1 : Int32))]) (rest := [(.ref b386)]) (own_rm1 l Z a0 hw [] b386 b366 (1 : Int32) u0 u1 h382 n0 z400 X384 F393 F394 F395 F396 F397 F398 g389 f399 ne388) (W := 1) (by decide) (by decide) (by decide) (by decide) rfl (by rw [hml]; rfl) (lenOf own_pd2 rfl) rfl (by show 2 * 0 + _ ≤ _; exact Nat.le_of_eq rfl) (hb hby at_71) (fun T401 h403 v404 Y402 q405 => ?_)
     obtain ⟨rfl, K406, F407, F408, F409⟩ := q405
     show own_Ends _ _ _ _ (T401.setTop (mkF m 74 #[.val (.int x0), .val (.int x1), .val (.int x2), .val (.int x3), .val (.int x4), .val (.int c_), .val (.int u0), .val (.int u1), .val (.int (1 : Int32)), .val (.ref b366), .unset, .unset, .unset, .unset, .unset] [(.ref b386)]))
     refine own_st (fun t_ => XS.astore (own_here Y402) hx rfl (hb hby at_74) rfl rfl (l' := #[.val (.int x0), .val (.int x1), .val (.int x2), .val (.int x3), .val (.int x4), .val (.int c_), .val (.int u0), .val (.int u1), .val (.int (1 : Int32)), .val (.ref b366), .val (.ref b386), .unset, .unset, .unset, .unset]) rfl) ?_
     show own_Ends _ _ _ _ (T401.setTop (mkF m 76 #[.val (.int x0), .val (.int x1), .val (.int x2), .val (.int x3), .val (.int x4), .val (.int c_), .val (.int u0), .val (.int u1), .val (.int (1 : Int32)), .val (.ref b366), .val (.ref b386), .unset, .unset, .unset, .unset] []))
     refine own_st (fun t_ => XS.iload (own_here Y402) hx rfl (hb hby at_76) rfl) ?_
     show own_Ends _ _ _ _ (T401.setTop (mkF m 78 #[.val (.int x0), .val (.int x1), .val (.int x2), .val (.int x3), .val (.int x4), .val (.int c_), .val (.int u0), .val (.int u1), .val (.int (1 : Int32)), .val (.ref b366), .val (.ref b386), .unset, .unset, .unset, .unset] [(.int u0)]))
     refine own_st (fun t_ => XS.iload (own_here Y402) hx rfl (hb hby at_78) rfl) ?_
     show own_Ends _ _ _ _ (T401.setTop (mkF m 80 #[.val (.int x0), .val (.int x1), .val (.int x2), .val (.int x3), .val (.int x4), .val (.int c_), .val (.int u0), .val (.int u1), .val (.int (1 : Int32)), .val (.ref b366), .val (.ref b386), .unset, .unset, .unset, .unset] [(.int u1), (.int u0)]))
     refine own_st (fun t_ => XS.iload (own_here Y402) hx rfl (hb hby at_80) rfl) ?_
     show own_Ends _ _ _ _ (T401.setTop (mkF m 82 #[.val (.int x0), .val (.int x1), .val (.int x2), .val (.int x3), .val (.int x4), .val (.int c_), .val (.int u0), .val (.int u1), .val (.int (1 : Int32)), .val (.ref b366), .val (.ref b386), .unset, .unset, .unset, .unset] [(.int (1 : Int32)), (.int u1), (.int u0)]))
     refine own_callS Y402 hx hZ (y := (⟨"com/example/deft_wiring/deftwiring/context/XmlScannerSkipPinLaw", "at", "(BBI)I"⟩ : MethodName)) hown (hw _ (List.mem_of_getElem? (i := 41) rfl)) (hw _ (List.mem_of_getElem? (i := 42) rfl)) (hw _ (List.mem_of_getElem? (i := 43) rfl)) (hw _ (List.mem_of_getElem? (i := 44) rfl)) (by decide) (argsL := [(.int u0), (.int u1), (.int (1 : Int32))]) (rest := []) (own_rm5_1 l Z a0 hw [] u0 u1  h403 n0  ) (W := 0) (by decide) (by decide) (by decide) (by decide) rfl (by rw [hml]; rfl) (lenOf own_pd3 rfl) rfl (by show 2 * 0 + _ ≤ _; exact Nat.le_of_eq rfl) (hb hby at_82) (fun T410 h412 v413 Y411 q414 => ?_)
     obtain ⟨rfl, rfl⟩ := q414
     show own_Ends _ _ _ _ (T410.setTop (mkF m 85 #[.val (.int x0), .val (.int x1), .val (.int x2), .val (.int x3), .val (.int x4), .val (.int c_), .val (.int u0), .val (.int u1), .val (.int (1 : Int32)), .val (.ref b366), .val (.ref b386), .unset, .unset, .unset, .unset] [(.int (u1 &&& (255 : Int32)))]))
     refine own_st (fun t_ => XS.istore (own_here Y411) hx rfl (hb hby at_85) rfl (l' := #[.val (.int x0), .val (.int x1), .val (.int x2), .val (.int x3), .val (.int x4), .val (.int c_), .val (.int u0), .val (.int u1), .val (.int (1 : Int32)), .val (.ref b366), .val (.ref b386), .val (.int (u1 &&& (255 : Int32))), .unset, .unset, .unset]) rfl) ?_
     show own_Ends _ _ _ _ (T410.setTop (mkF m 87 #[.val (.int x0), .val (.int x1), .val (.int x2), .val (.int x3), .val (.int x4), .val (.int c_), .val (.int u0), .val (.int u1), .val (.int (1 : Int32)), .val (.ref b366), .val (.ref b386), .val (.int (u1 &&& (255 : Int32))), .unset, .unset, .unset] []))
     refine own_st (fun t_ => XS.iload (own_here Y411) hx rfl (hb hby at_87) rfl) ?_
     show own_Ends _ _ _ _ (T410.setTop (mkF m 89 #[.val (.int x0), .val (.int x1), .val (.int x2), .val (.int x3), .val (.int x4), .val (.int c_), .val (.int u0), .val (.int u1), .val (.int (1 : Int32)), .val (.ref b366), .val (.ref b386), .val (.int (u1 &&& (255 : Int32))), .unset, .unset, .unset] [(.int (u1 &&& (255 : Int32)))]))
     refine own_st (fun t_ => XS.iload (own_here Y411) hx rfl (hb hby at_89) rfl) ?_
     show own_Ends _ _ _ _ (T410.setTop (mkF m 91 #[.val (.int x0), .val (.int x1), .val (.int x2), .val (.int x3), .val (.int x4), .val (.int c_), .val (.int u0), .val (.int u1), .val (.int (1 : Int32)), .val (.ref b366), .val (.ref b386), .val (.int (u1 &&& (255 : Int32))), .unset, .unset, .unset] [(.int c_), (.int (u1 &&& (255 : Int32)))]))
     by_cases c91_415 : (u1 &&& (255 : Int32)) = c_
     ·
      refine own_st (fun t_ => XS.icmpNo (own_here Y411) hx rfl (hb hby at_91) rfl (XT.ii_ne_f c91_415)) ?_
      show own_Ends _ _ _ _ (T410.setTop (mkF m 94 #[.val (.int x0), .val (.int x1), .val (.int x2), .val (.int x3), .val (.int x4), .val (.int c_), .val (.int u0), .val (.int u1), .val (.int (1 : Int32)), .val (.ref b366), .val (.ref b386), .val (.int (u1 &&& (255 : Int32))), .unset, .unset, .unset] []))
      refine own_st (fun t_ => XS.iconst (own_here Y411) hx rfl (hb hby at_94) ) ?_
      show own_Ends _ _ _ _ (T410.setTop (mkF m 95 #[.val (.int x0), .val (.int x1), .val (.int x2), .val (.int x3), .val (.int x4), .val (.int c_), .val (.int u0), .val (.int u1), .val (.int (1 : Int32)), .val (.ref b366), .val (.ref b386), .val (.int (u1 &&& (255 : Int32))), .unset, .unset, .unset] [(.int (1 : Int32))]))
      refine own_st (fun t_ => XS.goto (own_here Y411) hx rfl (pc0 := 95) (pc' := 99) rfl (hb hby at_95) (by decide) (by decide)) ?_
      show own_Ends _ _ _ _ (T410.setTop (mkF m 99 #[.val (.int x0), .val (.int x1), .val (.int x2), .val (.int x3), .val (.int x4), .val (.int c_), .val (.int u0), .val (.int u1), .val (.int (1 : Int32)), .val (.ref b366), .val (.ref b386), .val (.int (u1 &&& (255 : Int32))), .unset, .unset, .unset] [(.int (1 : Int32))]))
      refine own_st (fun t_ => XS.istore (own_here Y411) hx rfl (hb hby at_99) rfl (l' := #[.val (.int x0), .val (.int x1), .val (.int x2), .val (.int x3), .val (.int x4), .val (.int c_), .val (.int u0), .val (.int u1), .val (.int (1 : Int32)), .val (.ref b366), .val (.ref b386), .val (.int (u1 &&& (255 : Int32))), .val (.int (1 : Int32)), .unset, .unset]) rfl) ?_
      show own_Ends _ _ _ _ (T410.setTop (mkF m 101 #[.val (.int x0), .val (.int x1), .val (.int x2), .val (.int x3), .val (.int x4), .val (.int c_), .val (.int u0), .val (.int u1), .val (.int (1 : Int32)), .val (.ref b366), .val (.ref b386), .val (.int (u1 &&& (255 : Int32))), .val (.int (1 : Int32)), .unset, .unset] []))
      have heq : u1 = c_ := by have q := c91_415; rw [own_eq, own_u8] at q; rw [own_eq]; omega
      refine own_st (fun t_ => XS.aload (own_here Y411) hx rfl (hb hby at_101) rfl rfl) ?_
      show own_Ends _ _ _ _ (T410.setTop (mkF m 103 #[.val (.int x0), .val (.int x1), .val (.int x2), .val (.int x3), .val (.int x4), .val (.int c_), .val (.int u0), .val (.int u1), .val (.int (1 : Int32)), .val (.ref b366), .val (.ref b386), .val (.int (u1 &&& (255 : Int32))), .val (.int (1 : Int32)), .unset, .unset] [(.ref b386)]))
      refine own_st (fun t_ => XS.iload (own_here Y411) hx rfl (hb hby at_103) rfl) ?_
      show own_Ends _ _ _ _ (T410.setTop (mkF m 105 #[.val (.int x0), .val (.int x1), .val (.int x2), .val (.int x3), .val (.int x4), .val (.int c_), .val (.int u0), .val (.int u1), .val (.int (1 : Int32)), .val (.ref b366), .val (.ref b386), .val (.int (u1 &&& (255 : Int32))), .val (.int (1 : Int32)), .unset, .unset] [(.int c_), (.ref b386)]))
      have f416 : Exa Z h403 b386 "com/example/deft_wiring/deftwiring/context/XmlScanner" := X384.keep K406
      have f417 : own_A Z h403 b366 .byte [(.int u0), (.int u1)] := f399.keep K406 (ninS ne388 nin0)
      refine own_callV Y411 hx hZ (y := (⟨"com/example/deft_wiring/deftwiring/context/XmlScanner", "skip", "(C)Z"⟩ : MethodName)) (z := (⟨"com/example/deft_wiring/deftwiring/context/XmlScanner", "skip", "(C)Z"⟩ : MethodName)) hown (hw _ (List.mem_of_getElem? (i := 45) rfl)) (hw _ (List.mem_of_getElem? (i := 46) rfl)) (notFace_of_selects (args := #[]) (mvT hZ (hw _ (List.mem_of_getElem? (i := 48) rfl)))) (hw _ (List.mem_of_getElem? (i := 48) rfl)) (hw _ (List.mem_of_getElem? (i := 47) rfl)) (hw _ (List.mem_of_getElem? (i := 4) rfl)) (hw _ (List.mem_of_getElem? (i := 49) rfl)) (by decide) (a := b386) f416 (argsL := [(.int c_)]) (rest := []) (own_rm6_y1 l Z a0 hw [] b386 c_ b366 u0 u1 h403 n0  f416 F407 F408 F409 f417 g389 heq) (W := 0) (by decide) (by decide) (by decide) (by decide) rfl (by rw [hml]; rfl) (lenOf own_pd4 rfl) rfl (by show 2 * 0 + _ ≤ _; exact Nat.le_of_eq rfl) (hb hby at_105) (fun T418 h420 v421 Y419 q422 => ?_)
      obtain ⟨rfl, K423, F424, F425, F426⟩ := q422
      show own_Ends _ _ _ _ (T418.setTop (mkF m 108 #[.val (.int x0), .val (.int x1), .val (.int x2), .val (.int x3), .val (.int x4), .val (.int c_), .val (.int u0), .val (.int u1), .val (.int (1 : Int32)), .val (.ref b366), .val (.ref b386), .val (.int (u1 &&& (255 : Int32))), .val (.int (1 : Int32)), .unset, .unset] [(.int (1 : Int32))]))
      refine own_st (fun t_ => XS.istore (own_here Y419) hx rfl (hb hby at_108) rfl (l' := #[.val (.int x0), .val (.int x1), .val (.int x2), .val (.int x3), .val (.int x4), .val (.int c_), .val (.int u0), .val (.int u1), .val (.int (1 : Int32)), .val (.ref b366), .val (.ref b386), .val (.int (u1 &&& (255 : Int32))), .val (.int (1 : Int32)), .val (.int (1 : Int32)), .unset]) rfl) ?_
      show own_Ends _ _ _ _ (T418.setTop (mkF m 110 #[.val (.int x0), .val (.int x1), .val (.int x2), .val (.int x3), .val (.int x4), .val (.int c_), .val (.int u0), .val (.int u1), .val (.int (1 : Int32)), .val (.ref b366), .val (.ref b386), .val (.int (u1 &&& (255 : Int32))), .val (.int (1 : Int32)), .val (.int (1 : Int32)), .unset] []))
      refine own_st (fun t_ => XS.iload (own_here Y419) hx rfl (hb hby at_110) rfl) ?_
      show own_Ends _ _ _ _ (T418.setTop (mkF m 112 #[.val (.int x0), .val (.int x1), .val (.int x2), .val (.int x3), .val (.int x4), .val (.int c_), .val (.int u0), .val (.int u1), .val (.int (1 : Int32)), .val (.ref b366), .val (.ref b386), .val (.int (u1 &&& (255 : Int32))), .val (.int (1 : Int32)), .val (.int (1 : Int32)), .unset] [(.int (1 : Int32))]))
      refine own_st (fun t_ => XS.ifNo (own_here Y419) hx rfl (hb hby at_112) rfl (XT.i0_eq_f (by decide))) ?_
      show own_Ends _ _ _ _ (T418.setTop (mkF m 115 #[.val (.int x0), .val (.int x1), .val (.int x2), .val (.int x3), .val (.int x4), .val (.int c_), .val (.int u0), .val (.int u1), .val (.int (1 : Int32)), .val (.ref b366), .val (.ref b386), .val (.int (u1 &&& (255 : Int32))), .val (.int (1 : Int32)), .val (.int (1 : Int32)), .unset] []))
      refine own_st (fun t_ => XS.iload (own_here Y419) hx rfl (hb hby at_115) rfl) ?_
      show own_Ends _ _ _ _ (T418.setTop (mkF m 117 #[.val (.int x0), .val (.int x1), .val (.int x2), .val (.int x3), .val (.int x4), .val (.int c_), .val (.int u0), .val (.int u1), .val (.int (1 : Int32)), .val (.ref b366), .val (.ref b386), .val (.int (u1 &&& (255 : Int32))), .val (.int (1 : Int32)), .val (.int (1 : Int32)), .unset] [(.int (1 : Int32))]))
      refine own_st (fun t_ => XS.iconst (own_here Y419) hx rfl (hb hby at_117) ) ?_
      show own_Ends _ _ _ _ (T418.setTop (mkF m 118 #[.val (.int x0), .val (.int x1), .val (.int x2), .val (.int x3), .val (.int x4), .val (.int c_), .val (.int u0), .val (.int u1), .val (.int (1 : Int32)), .val (.ref b366), .val (.ref b386), .val (.int (u1 &&& (255 : Int32))), .val (.int (1 : Int32)), .val (.int (1 : Int32)), .unset] [(.int (1 : Int32)), (.int (1 : Int32))]))
      refine own_st (fun t_ => XS.iadd (own_here Y419) hx rfl (hb hby at_118) rfl) ?_
      show own_Ends _ _ _ _ (T418.setTop (mkF m 119 #[.val (.int x0), .val (.int x1), .val (.int x2), .val (.int x3), .val (.int x4), .val (.int c_), .val (.int u0), .val (.int u1), .val (.int (1 : Int32)), .val (.ref b366), .val (.ref b386), .val (.int (u1 &&& (255 : Int32))), .val (.int (1 : Int32)), .val (.int (1 : Int32)), .unset] [(.int (2 : Int32))]))
      refine own_st (fun t_ => XS.goto (own_here Y419) hx rfl (pc0 := 119) (pc' := 124) rfl (hb hby at_119) (by decide) (by decide)) ?_
      show own_Ends _ _ _ _ (T418.setTop (mkF m 124 #[.val (.int x0), .val (.int x1), .val (.int x2), .val (.int x3), .val (.int x4), .val (.int c_), .val (.int u0), .val (.int u1), .val (.int (1 : Int32)), .val (.ref b366), .val (.ref b386), .val (.int (u1 &&& (255 : Int32))), .val (.int (1 : Int32)), .val (.int (1 : Int32)), .unset] [(.int (2 : Int32))]))
      refine own_st (fun t_ => XS.istore (own_here Y419) hx rfl (hb hby at_124) rfl (l' := #[.val (.int x0), .val (.int x1), .val (.int x2), .val (.int x3), .val (.int x4), .val (.int c_), .val (.int u0), .val (.int u1), .val (.int (1 : Int32)), .val (.ref b366), .val (.ref b386), .val (.int (u1 &&& (255 : Int32))), .val (.int (1 : Int32)), .val (.int (1 : Int32)), .val (.int (2 : Int32))]) rfl) ?_
      show own_Ends _ _ _ _ (T418.setTop (mkF m 126 #[.val (.int x0), .val (.int x1), .val (.int x2), .val (.int x3), .val (.int x4), .val (.int c_), .val (.int u0), .val (.int u1), .val (.int (1 : Int32)), .val (.ref b366), .val (.ref b386), .val (.int (u1 &&& (255 : Int32))), .val (.int (1 : Int32)), .val (.int (1 : Int32)), .val (.int (2 : Int32))] []))
      refine own_st (fun t_ => XS.iload (own_here Y419) hx rfl (hb hby at_126) rfl) ?_
      show own_Ends _ _ _ _ (T418.setTop (mkF m 128 #[.val (.int x0), .val (.int x1), .val (.int x2), .val (.int x3), .val (.int x4), .val (.int c_), .val (.int u0), .val (.int u1), .val (.int (1 : Int32)), .val (.ref b366), .val (.ref b386), .val (.int (u1 &&& (255 : Int32))), .val (.int (1 : Int32)), .val (.int (1 : Int32)), .val (.int (2 : Int32))] [(.int (1 : Int32))]))
      refine own_st (fun t_ => XS.iload (own_here Y419) hx rfl (hb hby at_128) rfl) ?_
      show own_Ends _ _ _ _ (T418.setTop (mkF m 130 #[.val (.int x0), .val (.int x1), .val (.int x2), .val (.int x3), .val (.int x4), .val (.int c_), .val (.int u0), .val (.int u1), .val (.int (1 : Int32)), .val (.ref b366), .val (.ref b386), .val (.int (u1 &&& (255 : Int32))), .val (.int (1 : Int32)), .val (.int (1 : Int32)), .val (.int (2 : Int32))] [(.int (1 : Int32)), (.int (1 : Int32))]))
      refine own_st (fun t_ => XS.icmpNo (own_here Y419) hx rfl (hb hby at_130) rfl (XT.ii_ne_f (by decide))) ?_
      show own_Ends _ _ _ _ (T418.setTop (mkF m 133 #[.val (.int x0), .val (.int x1), .val (.int x2), .val (.int x3), .val (.int x4), .val (.int c_), .val (.int u0), .val (.int u1), .val (.int (1 : Int32)), .val (.ref b366), .val (.ref b386), .val (.int (u1 &&& (255 : Int32))), .val (.int (1 : Int32)), .val (.int (1 : Int32)), .val (.int (2 : Int32))] []))
      refine own_st (fun t_ => XS.aload (own_here Y419) hx rfl (hb hby at_133) rfl rfl) ?_
      show own_Ends _ _ _ _ (T418.setTop (mkF m 135 #[.val (.int x0), .val (.int x1), .val (.int x2), .val (.int x3), .val (.int x4), .val (.int c_), .val (.int u0), .val (.int u1), .val (.int (1 : Int32)), .val (.ref b366), .val (.ref b386), .val (.int (u1 &&& (255 : Int32))), .val (.int (1 : Int32)), .val (.int (1 : Int32)), .val (.int (2 : Int32))] [(.ref b386)]))
      have f427 : Exa Z h420 b386 "com/example/deft_wiring/deftwiring/context/XmlScanner" := f416.keep K423
      have f428 : own_A Z h420 b366 .byte [(.int u0), (.int u1)] := f417.keep K423 (ninS ne388 nin0)
      refine own_callV Y419 hx hZ (y := (⟨"com/example/deft_wiring/deftwiring/context/XmlScanner", "peek", "()I"⟩ : MethodName)) (z := (⟨"com/example/deft_wiring/deftwiring/context/XmlScanner", "peek", "()I"⟩ : MethodName)) hown (hw _ (List.mem_of_getElem? (i := 50) rfl)) (hw _ (List.mem_of_getElem? (i := 51) rfl)) (notFace_of_selects (args := #[]) (mvT hZ (hw _ (List.mem_of_getElem? (i := 53) rfl)))) (hw _ (List.mem_of_getElem? (i := 53) rfl)) (hw _ (List.mem_of_getElem? (i := 52) rfl)) (hw _ (List.mem_of_getElem? (i := 4) rfl)) (hw _ (List.mem_of_getElem? (i := 54) rfl)) (by decide) (a := b386) f427 (argsL := []) (rest := []) (own_rm7_2 l Z a0 hw [] b386 b366 u0 u1 h420 n0  f427 F424 F425 F426 f428) (W := 0) (by decide) (by decide) (by decide) (by decide) rfl (by rw [hml]; rfl) (lenOf own_pd5 rfl) rfl (by show 2 * 0 + _ ≤ _; exact Nat.le_of_eq rfl) (hb hby at_135) (fun T429 h431 v432 Y430 q433 => ?_)
      obtain ⟨rfl, rfl⟩ := q433
      show own_Ends _ _ _ _ (T429.setTop (mkF m 138 #[.val (.int x0), .val (.int x1), .val (.int x2), .val (.int x3), .val (.int x4), .val (.int c_), .val (.int u0), .val (.int u1), .val (.int (1 : Int32)), .val (.ref b366), .val (.ref b386), .val (.int (u1 &&& (255 : Int32))), .val (.int (1 : Int32)), .val (.int (1 : Int32)), .val (.int (2 : Int32))] [(.int (-1 : Int32))]))
      refine own_st (fun t_ => XS.iload (own_here Y430) hx rfl (hb hby at_138) rfl) ?_
      show own_Ends _ _ _ _ (T429.setTop (mkF m 140 #[.val (.int x0), .val (.int x1), .val (.int x2), .val (.int x3), .val (.int x4), .val (.int c_), .val (.int u0), .val (.int u1), .val (.int (1 : Int32)), .val (.ref b366), .val (.ref b386), .val (.int (u1 &&& (255 : Int32))), .val (.int (1 : Int32)), .val (.int (1 : Int32)), .val (.int (2 : Int32))] [(.int u0), (.int (-1 : Int32))]))
      refine own_st (fun t_ => XS.iload (own_here Y430) hx rfl (hb hby at_140) rfl) ?_
      show own_Ends _ _ _ _ (T429.setTop (mkF m 142 #[.val (.int x0), .val (.int x1), .val (.int x2), .val (.int x3), .val (.int x4), .val (.int c_), .val (.int u0), .val (.int u1), .val (.int (1 : Int32)), .val (.ref b366), .val (.ref b386), .val (.int (u1 &&& (255 : Int32))), .val (.int (1 : Int32)), .val (.int (1 : Int32)), .val (.int (2 : Int32))] [(.int u1), (.int u0), (.int (-1 : Int32))]))
      refine own_st (fun t_ => XS.iload (own_here Y430) hx rfl (hb hby at_142) rfl) ?_
      show own_Ends _ _ _ _ (T429.setTop (mkF m 144 #[.val (.int x0), .val (.int x1), .val (.int x2), .val (.int x3), .val (.int x4), .val (.int c_), .val (.int u0), .val (.int u1), .val (.int (1 : Int32)), .val (.ref b366), .val (.ref b386), .val (.int (u1 &&& (255 : Int32))), .val (.int (1 : Int32)), .val (.int (1 : Int32)), .val (.int (2 : Int32))] [(.int (2 : Int32)), (.int u1), (.int u0), (.int (-1 : Int32))]))
      refine own_callS Y430 hx hZ (y := (⟨"com/example/deft_wiring/deftwiring/context/XmlScannerSkipPinLaw", "at", "(BBI)I"⟩ : MethodName)) hown (hw _ (List.mem_of_getElem? (i := 41) rfl)) (hw _ (List.mem_of_getElem? (i := 42) rfl)) (hw _ (List.mem_of_getElem? (i := 43) rfl)) (hw _ (List.mem_of_getElem? (i := 44) rfl)) (by decide) (argsL := [(.int u0), (.int u1), (.int (2 : Int32))]) (rest := [(.int (-1 : Int32))]) (own_rm5_2 l Z a0 hw [] u0 u1  h420 n0  ) (W := 1) (by decide) (by decide) (by decide) (by decide) rfl (by rw [hml]; rfl) (lenOf own_pd3 rfl) rfl (by show 2 * 0 + _ ≤ _; exact Nat.le_of_eq rfl) (hb hby at_144) (fun T434 h436 v437 Y435 q438 => ?_)
      obtain ⟨rfl, rfl⟩ := q438
      show own_Ends _ _ _ _ (T434.setTop (mkF m 147 #[.val (.int x0), .val (.int x1), .val (.int x2), .val (.int x3), .val (.int x4), .val (.int c_), .val (.int u0), .val (.int u1), .val (.int (1 : Int32)), .val (.ref b366), .val (.ref b386), .val (.int (u1 &&& (255 : Int32))), .val (.int (1 : Int32)), .val (.int (1 : Int32)), .val (.int (2 : Int32))] [(.int (-1 : Int32)), (.int (-1 : Int32))]))
      refine own_st (fun t_ => XS.icmpNo (own_here Y435) hx rfl (hb hby at_147) rfl (XT.ii_ne_f rfl)) ?_
      show own_Ends _ _ _ _ (T434.setTop (mkF m 150 #[.val (.int x0), .val (.int x1), .val (.int x2), .val (.int x3), .val (.int x4), .val (.int c_), .val (.int u0), .val (.int u1), .val (.int (1 : Int32)), .val (.ref b366), .val (.ref b386), .val (.int (u1 &&& (255 : Int32))), .val (.int (1 : Int32)), .val (.int (1 : Int32)), .val (.int (2 : Int32))] []))
      refine own_st (fun t_ => XS.aload (own_here Y435) hx rfl (hb hby at_150) rfl rfl) ?_
      show own_Ends _ _ _ _ (T434.setTop (mkF m 152 #[.val (.int x0), .val (.int x1), .val (.int x2), .val (.int x3), .val (.int x4), .val (.int c_), .val (.int u0), .val (.int u1), .val (.int (1 : Int32)), .val (.ref b366), .val (.ref b386), .val (.int (u1 &&& (255 : Int32))), .val (.int (1 : Int32)), .val (.int (1 : Int32)), .val (.int (2 : Int32))] [(.ref b386)]))
      refine own_callV Y435 hx hZ (y := (⟨"com/example/deft_wiring/deftwiring/context/XmlScanner", "atEnd", "()Z"⟩ : MethodName)) (z := (⟨"com/example/deft_wiring/deftwiring/context/XmlScanner", "atEnd", "()Z"⟩ : MethodName)) hown (hw _ (List.mem_of_getElem? (i := 55) rfl)) (hw _ (List.mem_of_getElem? (i := 56) rfl)) (notFace_of_selects (args := #[]) (mvT hZ (hw _ (List.mem_of_getElem? (i := 58) rfl)))) (hw _ (List.mem_of_getElem? (i := 58) rfl)) (hw _ (List.mem_of_getElem? (i := 57) rfl)) (hw _ (List.mem_of_getElem? (i := 4) rfl)) (hw _ (List.mem_of_getElem? (i := 59) rfl)) (by decide) (a := b386) f427 (argsL := []) (rest := []) (own_rm8_2 l Z a0 hw [] b386 b366 u0 u1 h420 n0  f427 F424 F425 F426 f428) (W := 0) (by decide) (by decide) (by decide) (by decide) rfl (by rw [hml]; rfl) (lenOf own_pd6 rfl) rfl (by show 2 * 0 + _ ≤ _; exact Nat.le_of_eq rfl) (hb hby at_152) (fun T439 h441 v442 Y440 q443 => ?_)
      obtain ⟨rfl, rfl⟩ := q443
      show own_Ends _ _ _ _ (T439.setTop (mkF m 155 #[.val (.int x0), .val (.int x1), .val (.int x2), .val (.int x3), .val (.int x4), .val (.int c_), .val (.int u0), .val (.int u1), .val (.int (1 : Int32)), .val (.ref b366), .val (.ref b386), .val (.int (u1 &&& (255 : Int32))), .val (.int (1 : Int32)), .val (.int (1 : Int32)), .val (.int (2 : Int32))] [(.int (1 : Int32))]))
      refine own_st (fun t_ => XS.iload (own_here Y440) hx rfl (hb hby at_155) rfl) ?_
      show own_Ends _ _ _ _ (T439.setTop (mkF m 157 #[.val (.int x0), .val (.int x1), .val (.int x2), .val (.int x3), .val (.int x4), .val (.int c_), .val (.int u0), .val (.int u1), .val (.int (1 : Int32)), .val (.ref b366), .val (.ref b386), .val (.int (u1 &&& (255 : Int32))), .val (.int (1 : Int32)), .val (.int (1 : Int32)), .val (.int (2 : Int32))] [(.int (2 : Int32)), (.int (1 : Int32))]))
      refine own_st (fun t_ => XS.iconst (own_here Y440) hx rfl (hb hby at_157) ) ?_
      show own_Ends _ _ _ _ (T439.setTop (mkF m 158 #[.val (.int x0), .val (.int x1), .val (.int x2), .val (.int x3), .val (.int x4), .val (.int c_), .val (.int u0), .val (.int u1), .val (.int (1 : Int32)), .val (.ref b366), .val (.ref b386), .val (.int (u1 &&& (255 : Int32))), .val (.int (1 : Int32)), .val (.int (1 : Int32)), .val (.int (2 : Int32))] [(.int (2 : Int32)), (.int (2 : Int32)), (.int (1 : Int32))]))
      refine own_st (fun t_ => XS.icmpNo (own_here Y440) hx rfl (hb hby at_158) rfl (XT.ii_lt_f (by decide))) ?_
      show own_Ends _ _ _ _ (T439.setTop (mkF m 161 #[.val (.int x0), .val (.int x1), .val (.int x2), .val (.int x3), .val (.int x4), .val (.int c_), .val (.int u0), .val (.int u1), .val (.int (1 : Int32)), .val (.ref b366), .val (.ref b386), .val (.int (u1 &&& (255 : Int32))), .val (.int (1 : Int32)), .val (.int (1 : Int32)), .val (.int (2 : Int32))] [(.int (1 : Int32))]))
      refine own_st (fun t_ => XS.iconst (own_here Y440) hx rfl (hb hby at_161) ) ?_
      show own_Ends _ _ _ _ (T439.setTop (mkF m 162 #[.val (.int x0), .val (.int x1), .val (.int x2), .val (.int x3), .val (.int x4), .val (.int c_), .val (.int u0), .val (.int u1), .val (.int (1 : Int32)), .val (.ref b366), .val (.ref b386), .val (.int (u1 &&& (255 : Int32))), .val (.int (1 : Int32)), .val (.int (1 : Int32)), .val (.int (2 : Int32))] [(.int (1 : Int32)), (.int (1 : Int32))]))
      refine own_st (fun t_ => XS.goto (own_here Y440) hx rfl (pc0 := 162) (pc' := 166) rfl (hb hby at_162) (by decide) (by decide)) ?_
      show own_Ends _ _ _ _ (T439.setTop (mkF m 166 #[.val (.int x0), .val (.int x1), .val (.int x2), .val (.int x3), .val (.int x4), .val (.int c_), .val (.int u0), .val (.int u1), .val (.int (1 : Int32)), .val (.ref b366), .val (.ref b386), .val (.int (u1 &&& (255 : Int32))), .val (.int (1 : Int32)), .val (.int (1 : Int32)), .val (.int (2 : Int32))] [(.int (1 : Int32)), (.int (1 : Int32))]))
      refine own_st (fun t_ => XS.icmpNo (own_here Y440) hx rfl (hb hby at_166) rfl (XT.ii_ne_f (by decide))) ?_
      show own_Ends _ _ _ _ (T439.setTop (mkF m 169 #[.val (.int x0), .val (.int x1), .val (.int x2), .val (.int x3), .val (.int x4), .val (.int c_), .val (.int u0), .val (.int u1), .val (.int (1 : Int32)), .val (.ref b366), .val (.ref b386), .val (.int (u1 &&& (255 : Int32))), .val (.int (1 : Int32)), .val (.int (1 : Int32)), .val (.int (2 : Int32))] []))
      refine own_st (fun t_ => XS.aload (own_here Y440) hx rfl (hb hby at_169) rfl rfl) ?_
      show own_Ends _ _ _ _ (T439.setTop (mkF m 171 #[.val (.int x0), .val (.int x1), .val (.int x2), .val (.int x3), .val (.int x4), .val (.int c_), .val (.int u0), .val (.int u1), .val (.int (1 : Int32)), .val (.ref b366), .val (.ref b386), .val (.int (u1 &&& (255 : Int32))), .val (.int (1 : Int32)), .val (.int (1 : Int32)), .val (.int (2 : Int32))] [(.ref b366)]))
      refine own_st (fun t_ => XS.iconst (own_here Y440) hx rfl (hb hby at_171) ) ?_
      show own_Ends _ _ _ _ (T439.setTop (mkF m 172 #[.val (.int x0), .val (.int x1), .val (.int x2), .val (.int x3), .val (.int x4), .val (.int c_), .val (.int u0), .val (.int u1), .val (.int (1 : Int32)), .val (.ref b366), .val (.ref b386), .val (.int (u1 &&& (255 : Int32))), .val (.int (1 : Int32)), .val (.int (1 : Int32)), .val (.int (2 : Int32))] [(.int (0 : Int32)), (.ref b366)]))
      refine own_ldB Y440 hx hZ f428 (i := 0) (by decide) (by decide) (Nat.le_of_ble_eq_true rfl) (v := (.int u0)) rfl rfl rfl (hb hby at_172) ?_
      show own_Ends _ _ _ _ (T439.setTop (mkF m 173 #[.val (.int x0), .val (.int x1), .val (.int x2), .val (.int x3), .val (.int x4), .val (.int c_), .val (.int u0), .val (.int u1), .val (.int (1 : Int32)), .val (.ref b366), .val (.ref b386), .val (.int (u1 &&& (255 : Int32))), .val (.int (1 : Int32)), .val (.int (1 : Int32)), .val (.int (2 : Int32))] [(.int u0)]))
      refine own_st (fun t_ => XS.iload (own_here Y440) hx rfl (hb hby at_173) rfl) ?_
      show own_Ends _ _ _ _ (T439.setTop (mkF m 175 #[.val (.int x0), .val (.int x1), .val (.int x2), .val (.int x3), .val (.int x4), .val (.int c_), .val (.int u0), .val (.int u1), .val (.int (1 : Int32)), .val (.ref b366), .val (.ref b386), .val (.int (u1 &&& (255 : Int32))), .val (.int (1 : Int32)), .val (.int (1 : Int32)), .val (.int (2 : Int32))] [(.int u0), (.int u0)]))
      refine own_st (fun t_ => XS.icmpNo (own_here Y440) hx rfl (hb hby at_175) rfl (XT.ii_ne_f rfl)) ?_
      show own_Ends _ _ _ _ (T439.setTop (mkF m 178 #[.val (.int x0), .val (.int x1), .val (.int x2), .val (.int x3), .val (.int x4), .val (.int c_), .val (.int u0), .val (.int u1), .val (.int (1 : Int32)), .val (.ref b366), .val (.ref b386), .val (.int (u1 &&& (255 : Int32))), .val (.int (1 : Int32)), .val (.int (1 : Int32)), .val (.int (2 : Int32))] []))
      refine own_st (fun t_ => XS.aload (own_here Y440) hx rfl (hb hby at_178) rfl rfl) ?_
      show own_Ends _ _ _ _ (T439.setTop (mkF m 180 #[.val (.int x0), .val (.int x1), .val (.int x2), .val (.int x3), .val (.int x4), .val (.int c_), .val (.int u0), .val (.int u1), .val (.int (1 : Int32)), .val (.ref b366), .val (.ref b386), .val (.int (u1 &&& (255 : Int32))), .val (.int (1 : Int32)), .val (.int (1 : Int32)), .val (.int (2 : Int32))] [(.ref b366)]))
      refine own_st (fun t_ => XS.iconst (own_here Y440) hx rfl (hb hby at_180) ) ?_
      show own_Ends _ _ _ _ (T439.setTop (mkF m 181 #[.val (.int x0), .val (.int x1), .val (.int x2), .val (.int x3), .val (.int x4), .val (.int c_), .val (.int u0), .val (.int u1), .val (.int (1 : Int32)), .val (.ref b366), .val (.ref b386), .val (.int (u1 &&& (255 : Int32))), .val (.int (1 : Int32)), .val (.int (1 : Int32)), .val (.int (2 : Int32))] [(.int (1 : Int32)), (.ref b366)]))
      refine own_ldB Y440 hx hZ f428 (i := 1) (by decide) (by decide) (Nat.le_of_ble_eq_true rfl) (v := (.int u1)) rfl rfl rfl (hb hby at_181) ?_
      show own_Ends _ _ _ _ (T439.setTop (mkF m 182 #[.val (.int x0), .val (.int x1), .val (.int x2), .val (.int x3), .val (.int x4), .val (.int c_), .val (.int u0), .val (.int u1), .val (.int (1 : Int32)), .val (.ref b366), .val (.ref b386), .val (.int (u1 &&& (255 : Int32))), .val (.int (1 : Int32)), .val (.int (1 : Int32)), .val (.int (2 : Int32))] [(.int u1)]))
      refine own_st (fun t_ => XS.iload (own_here Y440) hx rfl (hb hby at_182) rfl) ?_
      show own_Ends _ _ _ _ (T439.setTop (mkF m 184 #[.val (.int x0), .val (.int x1), .val (.int x2), .val (.int x3), .val (.int x4), .val (.int c_), .val (.int u0), .val (.int u1), .val (.int (1 : Int32)), .val (.ref b366), .val (.ref b386), .val (.int (u1 &&& (255 : Int32))), .val (.int (1 : Int32)), .val (.int (1 : Int32)), .val (.int (2 : Int32))] [(.int u1), (.int u1)]))
      refine own_st (fun t_ => XS.icmpNo (own_here Y440) hx rfl (hb hby at_184) rfl (XT.ii_ne_f rfl)) ?_
      show own_Ends _ _ _ _ (T439.setTop (mkF m 187 #[.val (.int x0), .val (.int x1), .val (.int x2), .val (.int x3), .val (.int x4), .val (.int c_), .val (.int u0), .val (.int u1), .val (.int (1 : Int32)), .val (.ref b366), .val (.ref b386), .val (.int (u1 &&& (255 : Int32))), .val (.int (1 : Int32)), .val (.int (1 : Int32)), .val (.int (2 : Int32))] []))
      refine own_st (fun t_ => XS.iconst (own_here Y440) hx rfl (hb hby at_187) ) ?_
      show own_Ends _ _ _ _ (T439.setTop (mkF m 188 #[.val (.int x0), .val (.int x1), .val (.int x2), .val (.int x3), .val (.int x4), .val (.int c_), .val (.int u0), .val (.int u1), .val (.int (1 : Int32)), .val (.ref b366), .val (.ref b386), .val (.int (u1 &&& (255 : Int32))), .val (.int (1 : Int32)), .val (.int (1 : Int32)), .val (.int (2 : Int32))] [(.int (1 : Int32))]))
      refine own_st (fun t_ => XS.goto (own_here Y440) hx rfl (pc0 := 188) (pc' := 192) rfl (hb hby at_188) (by decide) (by decide)) ?_
      show own_Ends _ _ _ _ (T439.setTop (mkF m 192 #[.val (.int x0), .val (.int x1), .val (.int x2), .val (.int x3), .val (.int x4), .val (.int c_), .val (.int u0), .val (.int u1), .val (.int (1 : Int32)), .val (.ref b366), .val (.ref b386), .val (.int (u1 &&& (255 : Int32))), .val (.int (1 : Int32)), .val (.int (1 : Int32)), .val (.int (2 : Int32))] [(.int (1 : Int32))]))
      refine own_retN Y440 hx hlk (t := .boolean) hret (by simp) (hb hby at_192) (by decide) (by decide) ?_
      exact rfl
     ·
      refine own_st (fun t_ => XS.icmpYes (own_here Y411) hx rfl (pc0 := 91) (pc' := 98) rfl (hb hby at_91) rfl (XT.ii_ne_t c91_415) (by decide) (by decide)) ?_
      show own_Ends _ _ _ _ (T410.setTop (mkF m 98 #[.val (.int x0), .val (.int x1), .val (.int x2), .val (.int x3), .val (.int x4), .val (.int c_), .val (.int u0), .val (.int u1), .val (.int (1 : Int32)), .val (.ref b366), .val (.ref b386), .val (.int (u1 &&& (255 : Int32))), .unset, .unset, .unset] []))
      refine own_st (fun t_ => XS.iconst (own_here Y411) hx rfl (hb hby at_98) ) ?_
      show own_Ends _ _ _ _ (T410.setTop (mkF m 99 #[.val (.int x0), .val (.int x1), .val (.int x2), .val (.int x3), .val (.int x4), .val (.int c_), .val (.int u0), .val (.int u1), .val (.int (1 : Int32)), .val (.ref b366), .val (.ref b386), .val (.int (u1 &&& (255 : Int32))), .unset, .unset, .unset] [(.int (0 : Int32))]))
      refine own_st (fun t_ => XS.istore (own_here Y411) hx rfl (hb hby at_99) rfl (l' := #[.val (.int x0), .val (.int x1), .val (.int x2), .val (.int x3), .val (.int x4), .val (.int c_), .val (.int u0), .val (.int u1), .val (.int (1 : Int32)), .val (.ref b366), .val (.ref b386), .val (.int (u1 &&& (255 : Int32))), .val (.int (0 : Int32)), .unset, .unset]) rfl) ?_
      show own_Ends _ _ _ _ (T410.setTop (mkF m 101 #[.val (.int x0), .val (.int x1), .val (.int x2), .val (.int x3), .val (.int x4), .val (.int c_), .val (.int u0), .val (.int u1), .val (.int (1 : Int32)), .val (.ref b366), .val (.ref b386), .val (.int (u1 &&& (255 : Int32))), .val (.int (0 : Int32)), .unset, .unset] []))
      have heq : ¬ u1 = c_ := by have q := c91_415; rw [own_eq, own_u8] at q; rw [own_eq]; omega
      refine own_st (fun t_ => XS.aload (own_here Y411) hx rfl (hb hby at_101) rfl rfl) ?_
      show own_Ends _ _ _ _ (T410.setTop (mkF m 103 #[.val (.int x0), .val (.int x1), .val (.int x2), .val (.int x3), .val (.int x4), .val (.int c_), .val (.int u0), .val (.int u1), .val (.int (1 : Int32)), .val (.ref b366), .val (.ref b386), .val (.int (u1 &&& (255 : Int32))), .val (.int (0 : Int32)), .unset, .unset] [(.ref b386)]))
      refine own_st (fun t_ => XS.iload (own_here Y411) hx rfl (hb hby at_103) rfl) ?_
      show own_Ends _ _ _ _ (T410.setTop (mkF m 105 #[.val (.int x0), .val (.int x1), .val (.int x2), .val (.int x3), .val (.int x4), .val (.int c_), .val (.int u0), .val (.int u1), .val (.int (1 : Int32)), .val (.ref b366), .val (.ref b386), .val (.int (u1 &&& (255 : Int32))), .val (.int (0 : Int32)), .unset, .unset] [(.int c_), (.ref b386)]))
      have f444 : Exa Z h403 b386 "com/example/deft_wiring/deftwiring/context/XmlScanner" := X384.keep K406
      have f445 : own_A Z h403 b366 .byte [(.int u0), (.int u1)] := f399.keep K406 (ninS ne388 nin0)
      refine own_callV Y411 hx hZ (y := (⟨"com/example/deft_wiring/deftwiring/context/XmlScanner", "skip", "(C)Z"⟩ : MethodName)) (z := (⟨"com/example/deft_wiring/deftwiring/context/XmlScanner", "skip", "(C)Z"⟩ : MethodName)) hown (hw _ (List.mem_of_getElem? (i := 45) rfl)) (hw _ (List.mem_of_getElem? (i := 46) rfl)) (notFace_of_selects (args := #[]) (mvT hZ (hw _ (List.mem_of_getElem? (i := 48) rfl)))) (hw _ (List.mem_of_getElem? (i := 48) rfl)) (hw _ (List.mem_of_getElem? (i := 47) rfl)) (hw _ (List.mem_of_getElem? (i := 4) rfl)) (hw _ (List.mem_of_getElem? (i := 49) rfl)) (by decide) (a := b386) f444 (argsL := [(.int c_)]) (rest := []) (own_rm6_n1 l Z a0 hw [] b386 c_ b366 u0 u1 h403 n0  f444 F407 F408 F409 f445 heq) (W := 0) (by decide) (by decide) (by decide) (by decide) rfl (by rw [hml]; rfl) (lenOf own_pd4 rfl) rfl (by show 2 * 0 + _ ≤ _; exact Nat.le_of_eq rfl) (hb hby at_105) (fun T446 h448 v449 Y447 q450 => ?_)
      obtain ⟨rfl, rfl⟩ := q450
      show own_Ends _ _ _ _ (T446.setTop (mkF m 108 #[.val (.int x0), .val (.int x1), .val (.int x2), .val (.int x3), .val (.int x4), .val (.int c_), .val (.int u0), .val (.int u1), .val (.int (1 : Int32)), .val (.ref b366), .val (.ref b386), .val (.int (u1 &&& (255 : Int32))), .val (.int (0 : Int32)), .unset, .unset] [(.int (0 : Int32))]))
      refine own_st (fun t_ => XS.istore (own_here Y447) hx rfl (hb hby at_108) rfl (l' := #[.val (.int x0), .val (.int x1), .val (.int x2), .val (.int x3), .val (.int x4), .val (.int c_), .val (.int u0), .val (.int u1), .val (.int (1 : Int32)), .val (.ref b366), .val (.ref b386), .val (.int (u1 &&& (255 : Int32))), .val (.int (0 : Int32)), .val (.int (0 : Int32)), .unset]) rfl) ?_
      show own_Ends _ _ _ _ (T446.setTop (mkF m 110 #[.val (.int x0), .val (.int x1), .val (.int x2), .val (.int x3), .val (.int x4), .val (.int c_), .val (.int u0), .val (.int u1), .val (.int (1 : Int32)), .val (.ref b366), .val (.ref b386), .val (.int (u1 &&& (255 : Int32))), .val (.int (0 : Int32)), .val (.int (0 : Int32)), .unset] []))
      refine own_st (fun t_ => XS.iload (own_here Y447) hx rfl (hb hby at_110) rfl) ?_
      show own_Ends _ _ _ _ (T446.setTop (mkF m 112 #[.val (.int x0), .val (.int x1), .val (.int x2), .val (.int x3), .val (.int x4), .val (.int c_), .val (.int u0), .val (.int u1), .val (.int (1 : Int32)), .val (.ref b366), .val (.ref b386), .val (.int (u1 &&& (255 : Int32))), .val (.int (0 : Int32)), .val (.int (0 : Int32)), .unset] [(.int (0 : Int32))]))
      refine own_st (fun t_ => XS.ifYes (own_here Y447) hx rfl (pc0 := 112) (pc' := 122) rfl (hb hby at_112) rfl (XT.i0_eq_t (by decide)) (by decide) (by decide)) ?_
      show own_Ends _ _ _ _ (T446.setTop (mkF m 122 #[.val (.int x0), .val (.int x1), .val (.int x2), .val (.int x3), .val (.int x4), .val (.int c_), .val (.int u0), .val (.int u1), .val (.int (1 : Int32)), .val (.ref b366), .val (.ref b386), .val (.int (u1 &&& (255 : Int32))), .val (.int (0 : Int32)), .val (.int (0 : Int32)), .unset] []))
      refine own_st (fun t_ => XS.iload (own_here Y447) hx rfl (hb hby at_122) rfl) ?_
      show own_Ends _ _ _ _ (T446.setTop (mkF m 124 #[.val (.int x0), .val (.int x1), .val (.int x2), .val (.int x3), .val (.int x4), .val (.int c_), .val (.int u0), .val (.int u1), .val (.int (1 : Int32)), .val (.ref b366), .val (.ref b386), .val (.int (u1 &&& (255 : Int32))), .val (.int (0 : Int32)), .val (.int (0 : Int32)), .unset] [(.int (1 : Int32))]))
      refine own_st (fun t_ => XS.istore (own_here Y447) hx rfl (hb hby at_124) rfl (l' := #[.val (.int x0), .val (.int x1), .val (.int x2), .val (.int x3), .val (.int x4), .val (.int c_), .val (.int u0), .val (.int u1), .val (.int (1 : Int32)), .val (.ref b366), .val (.ref b386), .val (.int (u1 &&& (255 : Int32))), .val (.int (0 : Int32)), .val (.int (0 : Int32)), .val (.int (1 : Int32))]) rfl) ?_
      show own_Ends _ _ _ _ (T446.setTop (mkF m 126 #[.val (.int x0), .val (.int x1), .val (.int x2), .val (.int x3), .val (.int x4), .val (.int c_), .val (.int u0), .val (.int u1), .val (.int (1 : Int32)), .val (.ref b366), .val (.ref b386), .val (.int (u1 &&& (255 : Int32))), .val (.int (0 : Int32)), .val (.int (0 : Int32)), .val (.int (1 : Int32))] []))
      refine own_st (fun t_ => XS.iload (own_here Y447) hx rfl (hb hby at_126) rfl) ?_
      show own_Ends _ _ _ _ (T446.setTop (mkF m 128 #[.val (.int x0), .val (.int x1), .val (.int x2), .val (.int x3), .val (.int x4), .val (.int c_), .val (.int u0), .val (.int u1), .val (.int (1 : Int32)), .val (.ref b366), .val (.ref b386), .val (.int (u1 &&& (255 : Int32))), .val (.int (0 : Int32)), .val (.int (0 : Int32)), .val (.int (1 : Int32))] [(.int (0 : Int32))]))
      refine own_st (fun t_ => XS.iload (own_here Y447) hx rfl (hb hby at_128) rfl) ?_
      show own_Ends _ _ _ _ (T446.setTop (mkF m 130 #[.val (.int x0), .val (.int x1), .val (.int x2), .val (.int x3), .val (.int x4), .val (.int c_), .val (.int u0), .val (.int u1), .val (.int (1 : Int32)), .val (.ref b366), .val (.ref b386), .val (.int (u1 &&& (255 : Int32))), .val (.int (0 : Int32)), .val (.int (0 : Int32)), .val (.int (1 : Int32))] [(.int (0 : Int32)), (.int (0 : Int32))]))
      refine own_st (fun t_ => XS.icmpNo (own_here Y447) hx rfl (hb hby at_130) rfl (XT.ii_ne_f (by decide))) ?_
      show own_Ends _ _ _ _ (T446.setTop (mkF m 133 #[.val (.int x0), .val (.int x1), .val (.int x2), .val (.int x3), .val (.int x4), .val (.int c_), .val (.int u0), .val (.int u1), .val (.int (1 : Int32)), .val (.ref b366), .val (.ref b386), .val (.int (u1 &&& (255 : Int32))), .val (.int (0 : Int32)), .val (.int (0 : Int32)), .val (.int (1 : Int32))] []))
      refine own_st (fun t_ => XS.aload (own_here Y447) hx rfl (hb hby at_133) rfl rfl) ?_
      show own_Ends _ _ _ _ (T446.setTop (mkF m 135 #[.val (.int x0), .val (.int x1), .val (.int x2), .val (.int x3), .val (.int x4), .val (.int c_), .val (.int u0), .val (.int u1), .val (.int (1 : Int32)), .val (.ref b366), .val (.ref b386), .val (.int (u1 &&& (255 : Int32))), .val (.int (0 : Int32)), .val (.int (0 : Int32)), .val (.int (1 : Int32))] [(.ref b386)]))
      refine own_callV Y447 hx hZ (y := (⟨"com/example/deft_wiring/deftwiring/context/XmlScanner", "peek", "()I"⟩ : MethodName)) (z := (⟨"com/example/deft_wiring/deftwiring/context/XmlScanner", "peek", "()I"⟩ : MethodName)) hown (hw _ (List.mem_of_getElem? (i := 50) rfl)) (hw _ (List.mem_of_getElem? (i := 51) rfl)) (notFace_of_selects (args := #[]) (mvT hZ (hw _ (List.mem_of_getElem? (i := 53) rfl)))) (hw _ (List.mem_of_getElem? (i := 53) rfl)) (hw _ (List.mem_of_getElem? (i := 52) rfl)) (hw _ (List.mem_of_getElem? (i := 4) rfl)) (hw _ (List.mem_of_getElem? (i := 54) rfl)) (by decide) (a := b386) f444 (argsL := []) (rest := []) (own_rm7_1 l Z a0 hw [] b386 b366 u0 u1 h403 n0  f444 F407 F408 F409 f445) (W := 0) (by decide) (by decide) (by decide) (by decide) rfl (by rw [hml]; rfl) (lenOf own_pd5 rfl) rfl (by show 2 * 0 + _ ≤ _; exact Nat.le_of_eq rfl) (hb hby at_135) (fun T451 h453 v454 Y452 q455 => ?_)
      obtain ⟨rfl, rfl⟩ := q455
      show own_Ends _ _ _ _ (T451.setTop (mkF m 138 #[.val (.int x0), .val (.int x1), .val (.int x2), .val (.int x3), .val (.int x4), .val (.int c_), .val (.int u0), .val (.int u1), .val (.int (1 : Int32)), .val (.ref b366), .val (.ref b386), .val (.int (u1 &&& (255 : Int32))), .val (.int (0 : Int32)), .val (.int (0 : Int32)), .val (.int (1 : Int32))] [(.int (u1 &&& (255 : Int32)))]))
      refine own_st (fun t_ => XS.iload (own_here Y452) hx rfl (hb hby at_138) rfl) ?_
      show own_Ends _ _ _ _ (T451.setTop (mkF m 140 #[.val (.int x0), .val (.int x1), .val (.int x2), .val (.int x3), .val (.int x4), .val (.int c_), .val (.int u0), .val (.int u1), .val (.int (1 : Int32)), .val (.ref b366), .val (.ref b386), .val (.int (u1 &&& (255 : Int32))), .val (.int (0 : Int32)), .val (.int (0 : Int32)), .val (.int (1 : Int32))] [(.int u0), (.int (u1 &&& (255 : Int32)))]))
      refine own_st (fun t_ => XS.iload (own_here Y452) hx rfl (hb hby at_140) rfl) ?_
      show own_Ends _ _ _ _ (T451.setTop (mkF m 142 #[.val (.int x0), .val (.int x1), .val (.int x2), .val (.int x3), .val (.int x4), .val (.int c_), .val (.int u0), .val (.int u1), .val (.int (1 : Int32)), .val (.ref b366), .val (.ref b386), .val (.int (u1 &&& (255 : Int32))), .val (.int (0 : Int32)), .val (.int (0 : Int32)), .val (.int (1 : Int32))] [(.int u1), (.int u0), (.int (u1 &&& (255 : Int32)))]))
      refine own_st (fun t_ => XS.iload (own_here Y452) hx rfl (hb hby at_142) rfl) ?_
      show own_Ends _ _ _ _ (T451.setTop (mkF m 144 #[.val (.int x0), .val (.int x1), .val (.int x2), .val (.int x3), .val (.int x4), .val (.int c_), .val (.int u0), .val (.int u1), .val (.int (1 : Int32)), .val (.ref b366), .val (.ref b386), .val (.int (u1 &&& (255 : Int32))), .val (.int (0 : Int32)), .val (.int (0 : Int32)), .val (.int (1 : Int32))] [(.int (1 : Int32)), (.int u1), (.int u0), (.int (u1 &&& (255 : Int32)))]))
      refine own_callS Y452 hx hZ (y := (⟨"com/example/deft_wiring/deftwiring/context/XmlScannerSkipPinLaw", "at", "(BBI)I"⟩ : MethodName)) hown (hw _ (List.mem_of_getElem? (i := 41) rfl)) (hw _ (List.mem_of_getElem? (i := 42) rfl)) (hw _ (List.mem_of_getElem? (i := 43) rfl)) (hw _ (List.mem_of_getElem? (i := 44) rfl)) (by decide) (argsL := [(.int u0), (.int u1), (.int (1 : Int32))]) (rest := [(.int (u1 &&& (255 : Int32)))]) (own_rm5_1 l Z a0 hw [] u0 u1  h403 n0  ) (W := 1) (by decide) (by decide) (by decide) (by decide) rfl (by rw [hml]; rfl) (lenOf own_pd3 rfl) rfl (by show 2 * 0 + _ ≤ _; exact Nat.le_of_eq rfl) (hb hby at_144) (fun T456 h458 v459 Y457 q460 => ?_)
      obtain ⟨rfl, rfl⟩ := q460
      show own_Ends _ _ _ _ (T456.setTop (mkF m 147 #[.val (.int x0), .val (.int x1), .val (.int x2), .val (.int x3), .val (.int x4), .val (.int c_), .val (.int u0), .val (.int u1), .val (.int (1 : Int32)), .val (.ref b366), .val (.ref b386), .val (.int (u1 &&& (255 : Int32))), .val (.int (0 : Int32)), .val (.int (0 : Int32)), .val (.int (1 : Int32))] [(.int (u1 &&& (255 : Int32))), (.int (u1 &&& (255 : Int32)))]))
      refine own_st (fun t_ => XS.icmpNo (own_here Y457) hx rfl (hb hby at_147) rfl (XT.ii_ne_f rfl)) ?_
      show own_Ends _ _ _ _ (T456.setTop (mkF m 150 #[.val (.int x0), .val (.int x1), .val (.int x2), .val (.int x3), .val (.int x4), .val (.int c_), .val (.int u0), .val (.int u1), .val (.int (1 : Int32)), .val (.ref b366), .val (.ref b386), .val (.int (u1 &&& (255 : Int32))), .val (.int (0 : Int32)), .val (.int (0 : Int32)), .val (.int (1 : Int32))] []))
      refine own_st (fun t_ => XS.aload (own_here Y457) hx rfl (hb hby at_150) rfl rfl) ?_
      show own_Ends _ _ _ _ (T456.setTop (mkF m 152 #[.val (.int x0), .val (.int x1), .val (.int x2), .val (.int x3), .val (.int x4), .val (.int c_), .val (.int u0), .val (.int u1), .val (.int (1 : Int32)), .val (.ref b366), .val (.ref b386), .val (.int (u1 &&& (255 : Int32))), .val (.int (0 : Int32)), .val (.int (0 : Int32)), .val (.int (1 : Int32))] [(.ref b386)]))
      refine own_callV Y457 hx hZ (y := (⟨"com/example/deft_wiring/deftwiring/context/XmlScanner", "atEnd", "()Z"⟩ : MethodName)) (z := (⟨"com/example/deft_wiring/deftwiring/context/XmlScanner", "atEnd", "()Z"⟩ : MethodName)) hown (hw _ (List.mem_of_getElem? (i := 55) rfl)) (hw _ (List.mem_of_getElem? (i := 56) rfl)) (notFace_of_selects (args := #[]) (mvT hZ (hw _ (List.mem_of_getElem? (i := 58) rfl)))) (hw _ (List.mem_of_getElem? (i := 58) rfl)) (hw _ (List.mem_of_getElem? (i := 57) rfl)) (hw _ (List.mem_of_getElem? (i := 4) rfl)) (hw _ (List.mem_of_getElem? (i := 59) rfl)) (by decide) (a := b386) f444 (argsL := []) (rest := []) (own_rm8_1 l Z a0 hw [] b386 b366 u0 u1 h403 n0  f444 F407 F408 F409 f445) (W := 0) (by decide) (by decide) (by decide) (by decide) rfl (by rw [hml]; rfl) (lenOf own_pd6 rfl) rfl (by show 2 * 0 + _ ≤ _; exact Nat.le_of_eq rfl) (hb hby at_152) (fun T461 h463 v464 Y462 q465 => ?_)
      obtain ⟨rfl, rfl⟩ := q465
      show own_Ends _ _ _ _ (T461.setTop (mkF m 155 #[.val (.int x0), .val (.int x1), .val (.int x2), .val (.int x3), .val (.int x4), .val (.int c_), .val (.int u0), .val (.int u1), .val (.int (1 : Int32)), .val (.ref b366), .val (.ref b386), .val (.int (u1 &&& (255 : Int32))), .val (.int (0 : Int32)), .val (.int (0 : Int32)), .val (.int (1 : Int32))] [(.int (0 : Int32))]))
      refine own_st (fun t_ => XS.iload (own_here Y462) hx rfl (hb hby at_155) rfl) ?_
      show own_Ends _ _ _ _ (T461.setTop (mkF m 157 #[.val (.int x0), .val (.int x1), .val (.int x2), .val (.int x3), .val (.int x4), .val (.int c_), .val (.int u0), .val (.int u1), .val (.int (1 : Int32)), .val (.ref b366), .val (.ref b386), .val (.int (u1 &&& (255 : Int32))), .val (.int (0 : Int32)), .val (.int (0 : Int32)), .val (.int (1 : Int32))] [(.int (1 : Int32)), (.int (0 : Int32))]))
      refine own_st (fun t_ => XS.iconst (own_here Y462) hx rfl (hb hby at_157) ) ?_
      show own_Ends _ _ _ _ (T461.setTop (mkF m 158 #[.val (.int x0), .val (.int x1), .val (.int x2), .val (.int x3), .val (.int x4), .val (.int c_), .val (.int u0), .val (.int u1), .val (.int (1 : Int32)), .val (.ref b366), .val (.ref b386), .val (.int (u1 &&& (255 : Int32))), .val (.int (0 : Int32)), .val (.int (0 : Int32)), .val (.int (1 : Int32))] [(.int (2 : Int32)), (.int (1 : Int32)), (.int (0 : Int32))]))
      refine own_st (fun t_ => XS.icmpYes (own_here Y462) hx rfl (pc0 := 158) (pc' := 165) rfl (hb hby at_158) rfl (XT.ii_lt_t (by decide)) (by decide) (by decide)) ?_
      show own_Ends _ _ _ _ (T461.setTop (mkF m 165 #[.val (.int x0), .val (.int x1), .val (.int x2), .val (.int x3), .val (.int x4), .val (.int c_), .val (.int u0), .val (.int u1), .val (.int (1 : Int32)), .val (.ref b366), .val (.ref b386), .val (.int (u1 &&& (255 : Int32))), .val (.int (0 : Int32)), .val (.int (0 : Int32)), .val (.int (1 : Int32))] [(.int (0 : Int32))]))
      refine own_st (fun t_ => XS.iconst (own_here Y462) hx rfl (hb hby at_165) ) ?_
      show own_Ends _ _ _ _ (T461.setTop (mkF m 166 #[.val (.int x0), .val (.int x1), .val (.int x2), .val (.int x3), .val (.int x4), .val (.int c_), .val (.int u0), .val (.int u1), .val (.int (1 : Int32)), .val (.ref b366), .val (.ref b386), .val (.int (u1 &&& (255 : Int32))), .val (.int (0 : Int32)), .val (.int (0 : Int32)), .val (.int (1 : Int32))] [(.int (0 : Int32)), (.int (0 : Int32))]))
      refine own_st (fun t_ => XS.icmpNo (own_here Y462) hx rfl (hb hby at_166) rfl (XT.ii_ne_f (by decide))) ?_
      show own_Ends _ _ _ _ (T461.setTop (mkF m 169 #[.val (.int x0), .val (.int x1), .val (.int x2), .val (.int x3), .val (.int x4), .val (.int c_), .val (.int u0), .val (.int u1), .val (.int (1 : Int32)), .val (.ref b366), .val (.ref b386), .val (.int (u1 &&& (255 : Int32))), .val (.int (0 : Int32)), .val (.int (0 : Int32)), .val (.int (1 : Int32))] []))
      refine own_st (fun t_ => XS.aload (own_here Y462) hx rfl (hb hby at_169) rfl rfl) ?_
      show own_Ends _ _ _ _ (T461.setTop (mkF m 171 #[.val (.int x0), .val (.int x1), .val (.int x2), .val (.int x3), .val (.int x4), .val (.int c_), .val (.int u0), .val (.int u1), .val (.int (1 : Int32)), .val (.ref b366), .val (.ref b386), .val (.int (u1 &&& (255 : Int32))), .val (.int (0 : Int32)), .val (.int (0 : Int32)), .val (.int (1 : Int32))] [(.ref b366)]))
      refine own_st (fun t_ => XS.iconst (own_here Y462) hx rfl (hb hby at_171) ) ?_
      show own_Ends _ _ _ _ (T461.setTop (mkF m 172 #[.val (.int x0), .val (.int x1), .val (.int x2), .val (.int x3), .val (.int x4), .val (.int c_), .val (.int u0), .val (.int u1), .val (.int (1 : Int32)), .val (.ref b366), .val (.ref b386), .val (.int (u1 &&& (255 : Int32))), .val (.int (0 : Int32)), .val (.int (0 : Int32)), .val (.int (1 : Int32))] [(.int (0 : Int32)), (.ref b366)]))
      refine own_ldB Y462 hx hZ f445 (i := 0) (by decide) (by decide) (Nat.le_of_ble_eq_true rfl) (v := (.int u0)) rfl rfl rfl (hb hby at_172) ?_
      show own_Ends _ _ _ _ (T461.setTop (mkF m 173 #[.val (.int x0), .val (.int x1), .val (.int x2), .val (.int x3), .val (.int x4), .val (.int c_), .val (.int u0), .val (.int u1), .val (.int (1 : Int32)), .val (.ref b366), .val (.ref b386), .val (.int (u1 &&& (255 : Int32))), .val (.int (0 : Int32)), .val (.int (0 : Int32)), .val (.int (1 : Int32))] [(.int u0)]))
      refine own_st (fun t_ => XS.iload (own_here Y462) hx rfl (hb hby at_173) rfl) ?_
      show own_Ends _ _ _ _ (T461.setTop (mkF m 175 #[.val (.int x0), .val (.int x1), .val (.int x2), .val (.int x3), .val (.int x4), .val (.int c_), .val (.int u0), .val (.int u1), .val (.int (1 : Int32)), .val (.ref b366), .val (.ref b386), .val (.int (u1 &&& (255 : Int32))), .val (.int (0 : Int32)), .val (.int (0 : Int32)), .val (.int (1 : Int32))] [(.int u0), (.int u0)]))
      refine own_st (fun t_ => XS.icmpNo (own_here Y462) hx rfl (hb hby at_175) rfl (XT.ii_ne_f rfl)) ?_
      show own_Ends _ _ _ _ (T461.setTop (mkF m 178 #[.val (.int x0), .val (.int x1), .val (.int x2), .val (.int x3), .val (.int x4), .val (.int c_), .val (.int u0), .val (.int u1), .val (.int (1 : Int32)), .val (.ref b366), .val (.ref b386), .val (.int (u1 &&& (255 : Int32))), .val (.int (0 : Int32)), .val (.int (0 : Int32)), .val (.int (1 : Int32))] []))
      refine own_st (fun t_ => XS.aload (own_here Y462) hx rfl (hb hby at_178) rfl rfl) ?_
      show own_Ends _ _ _ _ (T461.setTop (mkF m 180 #[.val (.int x0), .val (.int x1), .val (.int x2), .val (.int x3), .val (.int x4), .val (.int c_), .val (.int u0), .val (.int u1), .val (.int (1 : Int32)), .val (.ref b366), .val (.ref b386), .val (.int (u1 &&& (255 : Int32))), .val (.int (0 : Int32)), .val (.int (0 : Int32)), .val (.int (1 : Int32))] [(.ref b366)]))
      refine own_st (fun t_ => XS.iconst (own_here Y462) hx rfl (hb hby at_180) ) ?_
      show own_Ends _ _ _ _ (T461.setTop (mkF m 181 #[.val (.int x0), .val (.int x1), .val (.int x2), .val (.int x3), .val (.int x4), .val (.int c_), .val (.int u0), .val (.int u1), .val (.int (1 : Int32)), .val (.ref b366), .val (.ref b386), .val (.int (u1 &&& (255 : Int32))), .val (.int (0 : Int32)), .val (.int (0 : Int32)), .val (.int (1 : Int32))] [(.int (1 : Int32)), (.ref b366)]))
      refine own_ldB Y462 hx hZ f445 (i := 1) (by decide) (by decide) (Nat.le_of_ble_eq_true rfl) (v := (.int u1)) rfl rfl rfl (hb hby at_181) ?_
      show own_Ends _ _ _ _ (T461.setTop (mkF m 182 #[.val (.int x0), .val (.int x1), .val (.int x2), .val (.int x3), .val (.int x4), .val (.int c_), .val (.int u0), .val (.int u1), .val (.int (1 : Int32)), .val (.ref b366), .val (.ref b386), .val (.int (u1 &&& (255 : Int32))), .val (.int (0 : Int32)), .val (.int (0 : Int32)), .val (.int (1 : Int32))] [(.int u1)]))
      refine own_st (fun t_ => XS.iload (own_here Y462) hx rfl (hb hby at_182) rfl) ?_
      show own_Ends _ _ _ _ (T461.setTop (mkF m 184 #[.val (.int x0), .val (.int x1), .val (.int x2), .val (.int x3), .val (.int x4), .val (.int c_), .val (.int u0), .val (.int u1), .val (.int (1 : Int32)), .val (.ref b366), .val (.ref b386), .val (.int (u1 &&& (255 : Int32))), .val (.int (0 : Int32)), .val (.int (0 : Int32)), .val (.int (1 : Int32))] [(.int u1), (.int u1)]))
      refine own_st (fun t_ => XS.icmpNo (own_here Y462) hx rfl (hb hby at_184) rfl (XT.ii_ne_f rfl)) ?_
      show own_Ends _ _ _ _ (T461.setTop (mkF m 187 #[.val (.int x0), .val (.int x1), .val (.int x2), .val (.int x3), .val (.int x4), .val (.int c_), .val (.int u0), .val (.int u1), .val (.int (1 : Int32)), .val (.ref b366), .val (.ref b386), .val (.int (u1 &&& (255 : Int32))), .val (.int (0 : Int32)), .val (.int (0 : Int32)), .val (.int (1 : Int32))] []))
      refine own_st (fun t_ => XS.iconst (own_here Y462) hx rfl (hb hby at_187) ) ?_
      show own_Ends _ _ _ _ (T461.setTop (mkF m 188 #[.val (.int x0), .val (.int x1), .val (.int x2), .val (.int x3), .val (.int x4), .val (.int c_), .val (.int u0), .val (.int u1), .val (.int (1 : Int32)), .val (.ref b366), .val (.ref b386), .val (.int (u1 &&& (255 : Int32))), .val (.int (0 : Int32)), .val (.int (0 : Int32)), .val (.int (1 : Int32))] [(.int (1 : Int32))]))
      refine own_st (fun t_ => XS.goto (own_here Y462) hx rfl (pc0 := 188) (pc' := 192) rfl (hb hby at_188) (by decide) (by decide)) ?_
      show own_Ends _ _ _ _ (T461.setTop (mkF m 192 #[.val (.int x0), .val (.int x1), .val (.int x2), .val (.int x3), .val (.int x4), .val (.int c_), .val (.int u0), .val (.int u1), .val (.int (1 : Int32)), .val (.ref b366), .val (.ref b386), .val (.int (u1 &&& (255 : Int32))), .val (.int (0 : Int32)), .val (.int (0 : Int32)), .val (.int (1 : Int32))] [(.int (1 : Int32))]))
      refine own_retN Y462 hx hlk (t := .boolean) hret (by simp) (hb hby at_192) (by decide) (by decide) ?_
      exact rfl
    ·
     show own_Ends _ _ _ _ (T254.setTop (mkF m 48 #[.val (.int x0), .val (.int x1), .val (.int x2), .val (.int x3), .val (.int x4), .val (.int c_), .val (.int u0), .val (.int u1), .val (.int (2 : Int32)), .unset, .unset, .unset, .unset, .unset, .unset] []))
     refine own_st (fun t_ => XS.iconst (own_here Y255) hx rfl (hb hby at_48) ) ?_
     show own_Ends _ _ _ _ (T254.setTop (mkF m 49 #[.val (.int x0), .val (.int x1), .val (.int x2), .val (.int x3), .val (.int x4), .val (.int c_), .val (.int u0), .val (.int u1), .val (.int (2 : Int32)), .unset, .unset, .unset, .unset, .unset, .unset] [(.int (2 : Int32))]))
     refine own_newP Y255 hx hZ (hw _ (List.mem_of_getElem? (i := 1) rfl)) rfl (hb hby at_49) rfl (by decide) (nz := 2) (cap := 2) (by decide) (by decide) (by decide) (by decide) (by decide) (ty := .byte) rfl (fun T466 h468 b471 eb472 Y467 E469 A470 => ?_)
     have g473 : n0 ≤ b471 := by rw [eb472]; exact Z0
     replace A470 : own_A Z h468 b471 .byte [(.int (0 : Int32)), (.int (0 : Int32))] := A470
     show own_Ends _ _ _ _ (T466.setTop (mkF m 51 #[.val (.int x0), .val (.int x1), .val (.int x2), .val (.int x3), .val (.int x4), .val (.int c_), .val (.int u0), .val (.int u1), .val (.int (2 : Int32)), .unset, .unset, .unset, .unset, .unset, .unset] [(.ref b471)]))
     refine own_st (fun t_ => XS.dup (own_here Y467) hx rfl (hb hby at_51) rfl rfl) ?_
     show own_Ends _ _ _ _ (T466.setTop (mkF m 52 #[.val (.int x0), .val (.int x1), .val (.int x2), .val (.int x3), .val (.int x4), .val (.int c_), .val (.int u0), .val (.int u1), .val (.int (2 : Int32)), .unset, .unset, .unset, .unset, .unset, .unset] [(.ref b471), (.ref b471)]))
     refine own_st (fun t_ => XS.iconst (own_here Y467) hx rfl (hb hby at_52) ) ?_
     show own_Ends _ _ _ _ (T466.setTop (mkF m 53 #[.val (.int x0), .val (.int x1), .val (.int x2), .val (.int x3), .val (.int x4), .val (.int c_), .val (.int u0), .val (.int u1), .val (.int (2 : Int32)), .unset, .unset, .unset, .unset, .unset, .unset] [(.int (0 : Int32)), (.ref b471), (.ref b471)]))
     refine own_st (fun t_ => XS.iload (own_here Y467) hx rfl (hb hby at_53) rfl) ?_
     show own_Ends _ _ _ _ (T466.setTop (mkF m 55 #[.val (.int x0), .val (.int x1), .val (.int x2), .val (.int x3), .val (.int x4), .val (.int c_), .val (.int u0), .val (.int u1), .val (.int (2 : Int32)), .unset, .unset, .unset, .unset, .unset, .unset] [(.int u0), (.int (0 : Int32)), (.ref b471), (.ref b471)]))
     refine own_stB Y467 hx hZ A470 g473 (i := 0) (by decide) (by decide) (Nat.le_of_ble_eq_true rfl) rfl rfl (hb hby at_55) (fun T474 h476 Y475 W477 A478 => ?_)
     replace A478 : own_A Z h476 b471 .byte [(.int (u0.toInt8.toInt32)), (.int (0 : Int32))] := A478
     show own_Ends _ _ _ _ (T474.setTop (mkF m 56 #[.val (.int x0), .val (.int x1), .val (.int x2), .val (.int x3), .val (.int x4), .val (.int c_), .val (.int u0), .val (.int u1), .val (.int (2 : Int32)), .unset, .unset, .unset, .unset, .unset, .unset] [(.ref b471)]))
     refine own_st (fun t_ => XS.dup (own_here Y475) hx rfl (hb hby at_56) rfl rfl) ?_
     show own_Ends _ _ _ _ (T474.setTop (mkF m 57 #[.val (.int x0), .val (.int x1), .val (.int x2), .val (.int x3), .val (.int x4), .val (.int c_), .val (.int u0), .val (.int u1), .val (.int (2 : Int32)), .unset, .unset, .unset, .unset, .unset, .unset] [(.ref b471), (.ref b471)]))
     refine own_st (fun t_ => XS.iconst (own_here Y475) hx rfl (hb hby at_57) ) ?_
     show own_Ends _ _ _ _ (T474.setTop (mkF m 58 #[.val (.int x0), .val (.int x1), .val (.int x2), .val (.int x3), .val (.int x4), .val (.int c_), .val (.int u0), .val (.int u1), .val (.int (2 : Int32)), .unset, .unset, .unset, .unset, .unset, .unset] [(.int (1 : Int32)), (.ref b471), (.ref b471)]))
     refine own_st (fun t_ => XS.iload (own_here Y475) hx rfl (hb hby at_58) rfl) ?_
     show own_Ends _ _ _ _ (T474.setTop (mkF m 60 #[.val (.int x0), .val (.int x1), .val (.int x2), .val (.int x3), .val (.int x4), .val (.int c_), .val (.int u0), .val (.int u1), .val (.int (2 : Int32)), .unset, .unset, .unset, .unset, .unset, .unset] [(.int u1), (.int (1 : Int32)), (.ref b471), (.ref b471)]))
     refine own_stB Y475 hx hZ A478 g473 (i := 1) (by decide) (by decide) (Nat.le_of_ble_eq_true rfl) rfl rfl (hb hby at_60) (fun T479 h481 Y480 W482 A483 => ?_)
     replace A483 : own_A Z h481 b471 .byte [(.int (u0.toInt8.toInt32)), (.int (u1.toInt8.toInt32))] := A483
     show own_Ends _ _ _ _ (T479.setTop (mkF m 61 #[.val (.int x0), .val (.int x1), .val (.int x2), .val (.int x3), .val (.int x4), .val (.int c_), .val (.int u0), .val (.int u1), .val (.int (2 : Int32)), .unset, .unset, .unset, .unset, .unset, .unset] [(.ref b471)]))
     have A484 : own_A Z h481 b471 .byte [(.int u0), (.int u1)] := by have q := A483; rw [own_byte hu0, own_byte hu1] at q; exact q
     refine own_st (fun t_ => XS.astore (own_here Y480) hx rfl (hb hby at_61) rfl rfl (l' := #[.val (.int x0), .val (.int x1), .val (.int x2), .val (.int x3), .val (.int x4), .val (.int c_), .val (.int u0), .val (.int u1), .val (.int (2 : Int32)), .val (.ref b471), .unset, .unset, .unset, .unset, .unset]) rfl) ?_
     show own_Ends _ _ _ _ (T479.setTop (mkF m 63 #[.val (.int x0), .val (.int x1), .val (.int x2), .val (.int x3), .val (.int x4), .val (.int c_), .val (.int u0), .val (.int u1), .val (.int (2 : Int32)), .val (.ref b471), .unset, .unset, .unset, .unset, .unset] []))
     refine own_new Y480 hx hZ hown (hw _ (List.mem_of_getElem? (i := 2) rfl)) (hw _ (List.mem_of_getElem? (i := 3) rfl)) (hw _ (List.mem_of_getElem? (i := 4) rfl)) rfl (hb hby at_63) (by decide) (by decide) (fun T485 h487 b491 eb492 Y486 E488 X489 D490 => ?_)
     have ne493 : b471 ≠ b491 := Nat.ne_of_lt (by rw [eb492]; exact A484.lt)
     have z495 : n0 ≤ h468.size := Nat.le_trans Z0 E469.1
     have z496 : n0 ≤ h476.size := Nat.le_trans z495 (Nat.le_of_eq W477.size.symm)
     have z497 : n0 ≤ h481.size := Nat.le_trans z496 (Nat.le_of_eq W482.size.symm)
     have g494 : n0 ≤ b491 := by rw [eb492]; exact z497
     have F498 : Fld Z h487 b491 "com/example/deft_wiring/deftwiring/context/XmlScanner" "bytes" "[B" .null := D490 _ _ _ (.array .byte) (Or.inr (hw _ (List.mem_of_getElem? (i := 30) rfl))) (by decide)
     have F499 : Fld Z h487 b491 "com/example/deft_wiring/deftwiring/context/XmlScanner" "end" "I" (.int (0 : Int32)) := D490 _ _ _ .int (Or.inr (hw _ (List.mem_of_getElem? (i := 32) rfl))) (by decide)
     have F500 : Fld Z h487 b491 "com/example/deft_wiring/deftwiring/context/XmlScanner" "document" "[B" .null := D490 _ _ _ (.array .byte) (Or.inr (hw _ (List.mem_of_getElem? (i := 34) rfl))) (by decide)
     have F501 : Fld Z h487 b491 "com/example/deft_wiring/deftwiring/context/XmlScanner" "referenceEnd" "I" (.int (0 : Int32)) := D490 _ _ _ .int (Or.inr (hw _ (List.mem_of_getElem? (i := 36) rfl))) (by decide)
     have F502 : Fld Z h487 b491 "com/example/deft_wiring/deftwiring/context/XmlScanner" "names" "Lcom/example/deft_wiring/deftwiring/context/XmlScanner$Names;" .null := D490 _ _ _ (.object "com/example/deft_wiring/deftwiring/context/XmlScanner$Names") (Or.inr (hw _ (List.mem_of_getElem? (i := 38) rfl))) (by decide)
     have F503 : Fld Z h487 b491 "com/example/deft_wiring/deftwiring/context/XmlScanner" "pos" "I" (.int (0 : Int32)) := D490 _ _ _ .int (Or.inl (hw _ (List.mem_of_getElem? (i := 40) rfl))) (by decide)
     show own_Ends _ _ _ _ (T485.setTop (mkF m 66 #[.val (.int x0), .val (.int x1), .val (.int x2), .val (.int x3), .val (.int x4), .val (.int c_), .val (.int u0), .val (.int u1), .val (.int (2 : Int32)), .val (.ref b471), .unset, .unset, .unset, .unset, .unset] [(.ref b491)]))
     refine own_st (fun t_ => XS.dup (own_here Y486) hx rfl (hb hby at_66) rfl rfl) ?_
     show own_Ends _ _ _ _ (T485.setTop (mkF m 67 #[.val (.int x0), .val (.int x1), .val (.int x2), .val (.int x3), .val (.int x4), .val (.int c_), .val (.int u0), .val (.int u1), .val (.int (2 : Int32)), .val (.ref b471), .unset, .unset, .unset, .unset, .unset] [(.ref b491), (.ref b491)]))
     refine own_st (fun t_ => XS.aload (own_here Y486) hx rfl (hb hby at_67) rfl rfl) ?_
     show own_Ends _ _ _ _ (T485.setTop (mkF m 69 #[.val (.int x0), .val (.int x1), .val (.int x2), .val (.int x3), .val (.int x4), .val (.int c_), .val (.int u0), .val (.int u1), .val (.int (2 : Int32)), .val (.ref b471), .unset, .unset, .unset, .unset, .unset] [(.ref b471), (.ref b491), (.ref b491)]))
     refine own_st (fun t_ => XS.iload (own_here Y486) hx rfl (hb hby at_69) rfl) ?_
     show own_Ends _ _ _ _ (T485.setTop (mkF m 71 #[.val (.int x0), .val (.int x1), .val (.int x2), .val (.int x3), .val (.int x4), .val (.int c_), .val (.int u0), .val (.int u1), .val (.int (2 : Int32)), .val (.ref b471), .unset, .unset, .unset, .unset, .unset] [(.int (2 : Int32)), (.ref b471), (.ref b491), (.ref b491)]))
     have f504 : own_A Z h487 b471 .byte [(.int u0), (.int u1)] := A484.ext E488
     have z505 : n0 ≤ h487.size := Nat.le_trans z497 E488.1
     refine own_callN Y486 hx hZ (y := (⟨"com/example/deft_wiring/deftwiring/context/XmlScanner", "<init>", "([BI)V"⟩ : MethodName)) rfl hown (hw _ (List.mem_of_getElem? (i := 5) rfl)) (hw _ (List.mem_of_getElem? (i := 6) rfl)) (hw _ (List.mem_of_getElem? (i := 4) rfl)) (hw _ (List.mem_of_getElem? (i := 7) rfl)) (by decide) (a := b491) (argsL := [(.ref b471), (.int (2 : Int32))]) (rest := [(.ref b491)]) (own_rm1 l Z a0 hw [] b491 b471 (2 : Int32) u0 u1 h487 n0 z505 X489 F498 F499 F500 F501 F502 F503 g494 f504 ne493) (W := 1) (by decide) (by decide) (by decide) (by decide) rfl (by rw [hml]; rfl) (lenOf own_pd2 rfl) rfl (by show 2 * 0 + _ ≤ _; exact Nat.le_of_eq rfl) (hb hby at_71) (fun T506 h508 v509 Y507 q510 => ?_)
     obtain ⟨rfl, K511, F512, F513, F514⟩ := q510
     show own_Ends _ _ _ _ (T506.setTop (mkF m 74 #[.val (.int x0), .val (.int x1), .val (.int x2), .val (.int x3), .val (.int x4), .val (.int c_), .val (.int u0), .val (.int u1), .val (.int (2 : Int32)), .val (.ref b471), .unset, .unset, .unset, .unset, .unset] [(.ref b491)]))
     refine own_st (fun t_ => XS.astore (own_here Y507) hx rfl (hb hby at_74) rfl rfl (l' := #[.val (.int x0), .val (.int x1), .val (.int x2), .val (.int x3), .val (.int x4), .val (.int c_), .val (.int u0), .val (.int u1), .val (.int (2 : Int32)), .val (.ref b471), .val (.ref b491), .unset, .unset, .unset, .unset]) rfl) ?_
     show own_Ends _ _ _ _ (T506.setTop (mkF m 76 #[.val (.int x0), .val (.int x1), .val (.int x2), .val (.int x3), .val (.int x4), .val (.int c_), .val (.int u0), .val (.int u1), .val (.int (2 : Int32)), .val (.ref b471), .val (.ref b491), .unset, .unset, .unset, .unset] []))
     refine own_st (fun t_ => XS.iload (own_here Y507) hx rfl (hb hby at_76) rfl) ?_
     show own_Ends _ _ _ _ (T506.setTop (mkF m 78 #[.val (.int x0), .val (.int x1), .val (.int x2), .val (.int x3), .val (.int x4), .val (.int c_), .val (.int u0), .val (.int u1), .val (.int (2 : Int32)), .val (.ref b471), .val (.ref b491), .unset, .unset, .unset, .unset] [(.int u0)]))
     refine own_st (fun t_ => XS.iload (own_here Y507) hx rfl (hb hby at_78) rfl) ?_
     show own_Ends _ _ _ _ (T506.setTop (mkF m 80 #[.val (.int x0), .val (.int x1), .val (.int x2), .val (.int x3), .val (.int x4), .val (.int c_), .val (.int u0), .val (.int u1), .val (.int (2 : Int32)), .val (.ref b471), .val (.ref b491), .unset, .unset, .unset, .unset] [(.int u1), (.int u0)]))
     refine own_st (fun t_ => XS.iload (own_here Y507) hx rfl (hb hby at_80) rfl) ?_
     show own_Ends _ _ _ _ (T506.setTop (mkF m 82 #[.val (.int x0), .val (.int x1), .val (.int x2), .val (.int x3), .val (.int x4), .val (.int c_), .val (.int u0), .val (.int u1), .val (.int (2 : Int32)), .val (.ref b471), .val (.ref b491), .unset, .unset, .unset, .unset] [(.int (2 : Int32)), (.int u1), (.int u0)]))
     refine own_callS Y507 hx hZ (y := (⟨"com/example/deft_wiring/deftwiring/context/XmlScannerSkipPinLaw", "at", "(BBI)I"⟩ : MethodName)) hown (hw _ (List.mem_of_getElem? (i := 41) rfl)) (hw _ (List.mem_of_getElem? (i := 42) rfl)) (hw _ (List.mem_of_getElem? (i := 43) rfl)) (hw _ (List.mem_of_getElem? (i := 44) rfl)) (by decide) (argsL := [(.int u0), (.int u1), (.int (2 : Int32))]) (rest := []) (own_rm5_2 l Z a0 hw [] u0 u1  h508 n0  ) (W := 0) (by decide) (by decide) (by decide) (by decide) rfl (by rw [hml]; rfl) (lenOf own_pd3 rfl) rfl (by show 2 * 0 + _ ≤ _; exact Nat.le_of_eq rfl) (hb hby at_82) (fun T515 h517 v518 Y516 q519 => ?_)
     obtain ⟨rfl, rfl⟩ := q519
     show own_Ends _ _ _ _ (T515.setTop (mkF m 85 #[.val (.int x0), .val (.int x1), .val (.int x2), .val (.int x3), .val (.int x4), .val (.int c_), .val (.int u0), .val (.int u1), .val (.int (2 : Int32)), .val (.ref b471), .val (.ref b491), .unset, .unset, .unset, .unset] [(.int (-1 : Int32))]))
     refine own_st (fun t_ => XS.istore (own_here Y516) hx rfl (hb hby at_85) rfl (l' := #[.val (.int x0), .val (.int x1), .val (.int x2), .val (.int x3), .val (.int x4), .val (.int c_), .val (.int u0), .val (.int u1), .val (.int (2 : Int32)), .val (.ref b471), .val (.ref b491), .val (.int (-1 : Int32)), .unset, .unset, .unset]) rfl) ?_
     show own_Ends _ _ _ _ (T515.setTop (mkF m 87 #[.val (.int x0), .val (.int x1), .val (.int x2), .val (.int x3), .val (.int x4), .val (.int c_), .val (.int u0), .val (.int u1), .val (.int (2 : Int32)), .val (.ref b471), .val (.ref b491), .val (.int (-1 : Int32)), .unset, .unset, .unset] []))
     refine own_st (fun t_ => XS.iload (own_here Y516) hx rfl (hb hby at_87) rfl) ?_
     show own_Ends _ _ _ _ (T515.setTop (mkF m 89 #[.val (.int x0), .val (.int x1), .val (.int x2), .val (.int x3), .val (.int x4), .val (.int c_), .val (.int u0), .val (.int u1), .val (.int (2 : Int32)), .val (.ref b471), .val (.ref b491), .val (.int (-1 : Int32)), .unset, .unset, .unset] [(.int (-1 : Int32))]))
     refine own_st (fun t_ => XS.iload (own_here Y516) hx rfl (hb hby at_89) rfl) ?_
     show own_Ends _ _ _ _ (T515.setTop (mkF m 91 #[.val (.int x0), .val (.int x1), .val (.int x2), .val (.int x3), .val (.int x4), .val (.int c_), .val (.int u0), .val (.int u1), .val (.int (2 : Int32)), .val (.ref b471), .val (.ref b491), .val (.int (-1 : Int32)), .unset, .unset, .unset] [(.int c_), (.int (-1 : Int32))]))
     refine own_st (fun t_ => XS.icmpYes (own_here Y516) hx rfl (pc0 := 91) (pc' := 98) rfl (hb hby at_91) rfl (XT.ii_ne_t (by rw [own_eq]; have l : (-1 : Int32).toInt = -1 := rfl; omega)) (by decide) (by decide)) ?_
     show own_Ends _ _ _ _ (T515.setTop (mkF m 98 #[.val (.int x0), .val (.int x1), .val (.int x2), .val (.int x3), .val (.int x4), .val (.int c_), .val (.int u0), .val (.int u1), .val (.int (2 : Int32)), .val (.ref b471), .val (.ref b491), .val (.int (-1 : Int32)), .unset, .unset, .unset] []))
     refine own_st (fun t_ => XS.iconst (own_here Y516) hx rfl (hb hby at_98) ) ?_
     show own_Ends _ _ _ _ (T515.setTop (mkF m 99 #[.val (.int x0), .val (.int x1), .val (.int x2), .val (.int x3), .val (.int x4), .val (.int c_), .val (.int u0), .val (.int u1), .val (.int (2 : Int32)), .val (.ref b471), .val (.ref b491), .val (.int (-1 : Int32)), .unset, .unset, .unset] [(.int (0 : Int32))]))
     refine own_st (fun t_ => XS.istore (own_here Y516) hx rfl (hb hby at_99) rfl (l' := #[.val (.int x0), .val (.int x1), .val (.int x2), .val (.int x3), .val (.int x4), .val (.int c_), .val (.int u0), .val (.int u1), .val (.int (2 : Int32)), .val (.ref b471), .val (.ref b491), .val (.int (-1 : Int32)), .val (.int (0 : Int32)), .unset, .unset]) rfl) ?_
     show own_Ends _ _ _ _ (T515.setTop (mkF m 101 #[.val (.int x0), .val (.int x1), .val (.int x2), .val (.int x3), .val (.int x4), .val (.int c_), .val (.int u0), .val (.int u1), .val (.int (2 : Int32)), .val (.ref b471), .val (.ref b491), .val (.int (-1 : Int32)), .val (.int (0 : Int32)), .unset, .unset] []))
     refine own_st (fun t_ => XS.aload (own_here Y516) hx rfl (hb hby at_101) rfl rfl) ?_
     show own_Ends _ _ _ _ (T515.setTop (mkF m 103 #[.val (.int x0), .val (.int x1), .val (.int x2), .val (.int x3), .val (.int x4), .val (.int c_), .val (.int u0), .val (.int u1), .val (.int (2 : Int32)), .val (.ref b471), .val (.ref b491), .val (.int (-1 : Int32)), .val (.int (0 : Int32)), .unset, .unset] [(.ref b491)]))
     refine own_st (fun t_ => XS.iload (own_here Y516) hx rfl (hb hby at_103) rfl) ?_
     show own_Ends _ _ _ _ (T515.setTop (mkF m 105 #[.val (.int x0), .val (.int x1), .val (.int x2), .val (.int x3), .val (.int x4), .val (.int c_), .val (.int u0), .val (.int u1), .val (.int (2 : Int32)), .val (.ref b471), .val (.ref b491), .val (.int (-1 : Int32)), .val (.int (0 : Int32)), .unset, .unset] [(.int c_), (.ref b491)]))
     have f520 : Exa Z h508 b491 "com/example/deft_wiring/deftwiring/context/XmlScanner" := X489.keep K511
     have f521 : own_A Z h508 b471 .byte [(.int u0), (.int u1)] := f504.keep K511 (ninS ne493 nin0)
     refine own_callV Y516 hx hZ (y := (⟨"com/example/deft_wiring/deftwiring/context/XmlScanner", "skip", "(C)Z"⟩ : MethodName)) (z := (⟨"com/example/deft_wiring/deftwiring/context/XmlScanner", "skip", "(C)Z"⟩ : MethodName)) hown (hw _ (List.mem_of_getElem? (i := 45) rfl)) (hw _ (List.mem_of_getElem? (i := 46) rfl)) (notFace_of_selects (args := #[]) (mvT hZ (hw _ (List.mem_of_getElem? (i := 48) rfl)))) (hw _ (List.mem_of_getElem? (i := 48) rfl)) (hw _ (List.mem_of_getElem? (i := 47) rfl)) (hw _ (List.mem_of_getElem? (i := 4) rfl)) (hw _ (List.mem_of_getElem? (i := 49) rfl)) (by decide) (a := b491) f520 (argsL := [(.int c_)]) (rest := []) (own_rm6_e l Z a0 hw [] b491 c_ b471 u0 u1 h508 n0  f520 F512 F513 F514 f521) (W := 0) (by decide) (by decide) (by decide) (by decide) rfl (by rw [hml]; rfl) (lenOf own_pd4 rfl) rfl (by show 2 * 0 + _ ≤ _; exact Nat.le_of_eq rfl) (hb hby at_105) (fun T522 h524 v525 Y523 q526 => ?_)
     obtain ⟨rfl, rfl⟩ := q526
     show own_Ends _ _ _ _ (T522.setTop (mkF m 108 #[.val (.int x0), .val (.int x1), .val (.int x2), .val (.int x3), .val (.int x4), .val (.int c_), .val (.int u0), .val (.int u1), .val (.int (2 : Int32)), .val (.ref b471), .val (.ref b491), .val (.int (-1 : Int32)), .val (.int (0 : Int32)), .unset, .unset] [(.int (0 : Int32))]))
     refine own_st (fun t_ => XS.istore (own_here Y523) hx rfl (hb hby at_108) rfl (l' := #[.val (.int x0), .val (.int x1), .val (.int x2), .val (.int x3), .val (.int x4), .val (.int c_), .val (.int u0), .val (.int u1), .val (.int (2 : Int32)), .val (.ref b471), .val (.ref b491), .val (.int (-1 : Int32)), .val (.int (0 : Int32)), .val (.int (0 : Int32)), .unset]) rfl) ?_
     show own_Ends _ _ _ _ (T522.setTop (mkF m 110 #[.val (.int x0), .val (.int x1), .val (.int x2), .val (.int x3), .val (.int x4), .val (.int c_), .val (.int u0), .val (.int u1), .val (.int (2 : Int32)), .val (.ref b471), .val (.ref b491), .val (.int (-1 : Int32)), .val (.int (0 : Int32)), .val (.int (0 : Int32)), .unset] []))
     refine own_st (fun t_ => XS.iload (own_here Y523) hx rfl (hb hby at_110) rfl) ?_
     show own_Ends _ _ _ _ (T522.setTop (mkF m 112 #[.val (.int x0), .val (.int x1), .val (.int x2), .val (.int x3), .val (.int x4), .val (.int c_), .val (.int u0), .val (.int u1), .val (.int (2 : Int32)), .val (.ref b471), .val (.ref b491), .val (.int (-1 : Int32)), .val (.int (0 : Int32)), .val (.int (0 : Int32)), .unset] [(.int (0 : Int32))]))
     refine own_st (fun t_ => XS.ifYes (own_here Y523) hx rfl (pc0 := 112) (pc' := 122) rfl (hb hby at_112) rfl (XT.i0_eq_t (by decide)) (by decide) (by decide)) ?_
     show own_Ends _ _ _ _ (T522.setTop (mkF m 122 #[.val (.int x0), .val (.int x1), .val (.int x2), .val (.int x3), .val (.int x4), .val (.int c_), .val (.int u0), .val (.int u1), .val (.int (2 : Int32)), .val (.ref b471), .val (.ref b491), .val (.int (-1 : Int32)), .val (.int (0 : Int32)), .val (.int (0 : Int32)), .unset] []))
     refine own_st (fun t_ => XS.iload (own_here Y523) hx rfl (hb hby at_122) rfl) ?_
     show own_Ends _ _ _ _ (T522.setTop (mkF m 124 #[.val (.int x0), .val (.int x1), .val (.int x2), .val (.int x3), .val (.int x4), .val (.int c_), .val (.int u0), .val (.int u1), .val (.int (2 : Int32)), .val (.ref b471), .val (.ref b491), .val (.int (-1 : Int32)), .val (.int (0 : Int32)), .val (.int (0 : Int32)), .unset] [(.int (2 : Int32))]))
     refine own_st (fun t_ => XS.istore (own_here Y523) hx rfl (hb hby at_124) rfl (l' := #[.val (.int x0), .val (.int x1), .val (.int x2), .val (.int x3), .val (.int x4), .val (.int c_), .val (.int u0), .val (.int u1), .val (.int (2 : Int32)), .val (.ref b471), .val (.ref b491), .val (.int (-1 : Int32)), .val (.int (0 : Int32)), .val (.int (0 : Int32)), .val (.int (2 : Int32))]) rfl) ?_
     show own_Ends _ _ _ _ (T522.setTop (mkF m 126 #[.val (.int x0), .val (.int x1), .val (.int x2), .val (.int x3), .val (.int x4), .val (.int c_), .val (.int u0), .val (.int u1), .val (.int (2 : Int32)), .val (.ref b471), .val (.ref b491), .val (.int (-1 : Int32)), .val (.int (0 : Int32)), .val (.int (0 : Int32)), .val (.int (2 : Int32))] []))
     refine own_st (fun t_ => XS.iload (own_here Y523) hx rfl (hb hby at_126) rfl) ?_
     show own_Ends _ _ _ _ (T522.setTop (mkF m 128 #[.val (.int x0), .val (.int x1), .val (.int x2), .val (.int x3), .val (.int x4), .val (.int c_), .val (.int u0), .val (.int u1), .val (.int (2 : Int32)), .val (.ref b471), .val (.ref b491), .val (.int (-1 : Int32)), .val (.int (0 : Int32)), .val (.int (0 : Int32)), .val (.int (2 : Int32))] [(.int (0 : Int32))]))
     refine own_st (fun t_ => XS.iload (own_here Y523) hx rfl (hb hby at_128) rfl) ?_
     show own_Ends _ _ _ _ (T522.setTop (mkF m 130 #[.val (.int x0), .val (.int x1), .val (.int x2), .val (.int x3), .val (.int x4), .val (.int c_), .val (.int u0), .val (.int u1), .val (.int (2 : Int32)), .val (.ref b471), .val (.ref b491), .val (.int (-1 : Int32)), .val (.int (0 : Int32)), .val (.int (0 : Int32)), .val (.int (2 : Int32))] [(.int (0 : Int32)), (.int (0 : Int32))]))
     refine own_st (fun t_ => XS.icmpNo (own_here Y523) hx rfl (hb hby at_130) rfl (XT.ii_ne_f (by decide))) ?_
     show own_Ends _ _ _ _ (T522.setTop (mkF m 133 #[.val (.int x0), .val (.int x1), .val (.int x2), .val (.int x3), .val (.int x4), .val (.int c_), .val (.int u0), .val (.int u1), .val (.int (2 : Int32)), .val (.ref b471), .val (.ref b491), .val (.int (-1 : Int32)), .val (.int (0 : Int32)), .val (.int (0 : Int32)), .val (.int (2 : Int32))] []))
     refine own_st (fun t_ => XS.aload (own_here Y523) hx rfl (hb hby at_133) rfl rfl) ?_
     show own_Ends _ _ _ _ (T522.setTop (mkF m 135 #[.val (.int x0), .val (.int x1), .val (.int x2), .val (.int x3), .val (.int x4), .val (.int c_), .val (.int u0), .val (.int u1), .val (.int (2 : Int32)), .val (.ref b471), .val (.ref b491), .val (.int (-1 : Int32)), .val (.int (0 : Int32)), .val (.int (0 : Int32)), .val (.int (2 : Int32))] [(.ref b491)]))
     refine own_callV Y523 hx hZ (y := (⟨"com/example/deft_wiring/deftwiring/context/XmlScanner", "peek", "()I"⟩ : MethodName)) (z := (⟨"com/example/deft_wiring/deftwiring/context/XmlScanner", "peek", "()I"⟩ : MethodName)) hown (hw _ (List.mem_of_getElem? (i := 50) rfl)) (hw _ (List.mem_of_getElem? (i := 51) rfl)) (notFace_of_selects (args := #[]) (mvT hZ (hw _ (List.mem_of_getElem? (i := 53) rfl)))) (hw _ (List.mem_of_getElem? (i := 53) rfl)) (hw _ (List.mem_of_getElem? (i := 52) rfl)) (hw _ (List.mem_of_getElem? (i := 4) rfl)) (hw _ (List.mem_of_getElem? (i := 54) rfl)) (by decide) (a := b491) f520 (argsL := []) (rest := []) (own_rm7_2 l Z a0 hw [] b491 b471 u0 u1 h508 n0  f520 F512 F513 F514 f521) (W := 0) (by decide) (by decide) (by decide) (by decide) rfl (by rw [hml]; rfl) (lenOf own_pd5 rfl) rfl (by show 2 * 0 + _ ≤ _; exact Nat.le_of_eq rfl) (hb hby at_135) (fun T527 h529 v530 Y528 q531 => ?_)
     obtain ⟨rfl, rfl⟩ := q531
     show own_Ends _ _ _ _ (T527.setTop (mkF m 138 #[.val (.int x0), .val (.int x1), .val (.int x2), .val (.int x3), .val (.int x4), .val (.int c_), .val (.int u0), .val (.int u1), .val (.int (2 : Int32)), .val (.ref b471), .val (.ref b491), .val (.int (-1 : Int32)), .val (.int (0 : Int32)), .val (.int (0 : Int32)), .val (.int (2 : Int32))] [(.int (-1 : Int32))]))
     refine own_st (fun t_ => XS.iload (own_here Y528) hx rfl (hb hby at_138) rfl) ?_
     show own_Ends _ _ _ _ (T527.setTop (mkF m 140 #[.val (.int x0), .val (.int x1), .val (.int x2), .val (.int x3), .val (.int x4), .val (.int c_), .val (.int u0), .val (.int u1), .val (.int (2 : Int32)), .val (.ref b471), .val (.ref b491), .val (.int (-1 : Int32)), .val (.int (0 : Int32)), .val (.int (0 : Int32)), .val (.int (2 : Int32))] [(.int u0), (.int (-1 : Int32))]))
     refine own_st (fun t_ => XS.iload (own_here Y528) hx rfl (hb hby at_140) rfl) ?_
     show own_Ends _ _ _ _ (T527.setTop (mkF m 142 #[.val (.int x0), .val (.int x1), .val (.int x2), .val (.int x3), .val (.int x4), .val (.int c_), .val (.int u0), .val (.int u1), .val (.int (2 : Int32)), .val (.ref b471), .val (.ref b491), .val (.int (-1 : Int32)), .val (.int (0 : Int32)), .val (.int (0 : Int32)), .val (.int (2 : Int32))] [(.int u1), (.int u0), (.int (-1 : Int32))]))
     refine own_st (fun t_ => XS.iload (own_here Y528) hx rfl (hb hby at_142) rfl) ?_
     show own_Ends _ _ _ _ (T527.setTop (mkF m 144 #[.val (.int x0), .val (.int x1), .val (.int x2), .val (.int x3), .val (.int x4), .val (.int c_), .val (.int u0), .val (.int u1), .val (.int (2 : Int32)), .val (.ref b471), .val (.ref b491), .val (.int (-1 : Int32)), .val (.int (0 : Int32)), .val (.int (0 : Int32)), .val (.int (2 : Int32))] [(.int (2 : Int32)), (.int u1), (.int u0), (.int (-1 : Int32))]))
     refine own_callS Y528 hx hZ (y := (⟨"com/example/deft_wiring/deftwiring/context/XmlScannerSkipPinLaw", "at", "(BBI)I"⟩ : MethodName)) hown (hw _ (List.mem_of_getElem? (i := 41) rfl)) (hw _ (List.mem_of_getElem? (i := 42) rfl)) (hw _ (List.mem_of_getElem? (i := 43) rfl)) (hw _ (List.mem_of_getElem? (i := 44) rfl)) (by decide) (argsL := [(.int u0), (.int u1), (.int (2 : Int32))]) (rest := [(.int (-1 : Int32))]) (own_rm5_2 l Z a0 hw [] u0 u1  h508 n0  ) (W := 1) (by decide) (by decide) (by decide) (by decide) rfl (by rw [hml]; rfl) (lenOf own_pd3 rfl) rfl (by show 2 * 0 + _ ≤ _; exact Nat.le_of_eq rfl) (hb hby at_144) (fun T532 h534 v535 Y533 q536 => ?_)
     obtain ⟨rfl, rfl⟩ := q536
     show own_Ends _ _ _ _ (T532.setTop (mkF m 147 #[.val (.int x0), .val (.int x1), .val (.int x2), .val (.int x3), .val (.int x4), .val (.int c_), .val (.int u0), .val (.int u1), .val (.int (2 : Int32)), .val (.ref b471), .val (.ref b491), .val (.int (-1 : Int32)), .val (.int (0 : Int32)), .val (.int (0 : Int32)), .val (.int (2 : Int32))] [(.int (-1 : Int32)), (.int (-1 : Int32))]))
     refine own_st (fun t_ => XS.icmpNo (own_here Y533) hx rfl (hb hby at_147) rfl (XT.ii_ne_f rfl)) ?_
     show own_Ends _ _ _ _ (T532.setTop (mkF m 150 #[.val (.int x0), .val (.int x1), .val (.int x2), .val (.int x3), .val (.int x4), .val (.int c_), .val (.int u0), .val (.int u1), .val (.int (2 : Int32)), .val (.ref b471), .val (.ref b491), .val (.int (-1 : Int32)), .val (.int (0 : Int32)), .val (.int (0 : Int32)), .val (.int (2 : Int32))] []))
     refine own_st (fun t_ => XS.aload (own_here Y533) hx rfl (hb hby at_150) rfl rfl) ?_
     show own_Ends _ _ _ _ (T532.setTop (mkF m 152 #[.val (.int x0), .val (.int x1), .val (.int x2), .val (.int x3), .val (.int x4), .val (.int c_), .val (.int u0), .val (.int u1), .val (.int (2 : Int32)), .val (.ref b471), .val (.ref b491), .val (.int (-1 : Int32)), .val (.int (0 : Int32)), .val (.int (0 : Int32)), .val (.int (2 : Int32))] [(.ref b491)]))
     refine own_callV Y533 hx hZ (y := (⟨"com/example/deft_wiring/deftwiring/context/XmlScanner", "atEnd", "()Z"⟩ : MethodName)) (z := (⟨"com/example/deft_wiring/deftwiring/context/XmlScanner", "atEnd", "()Z"⟩ : MethodName)) hown (hw _ (List.mem_of_getElem? (i := 55) rfl)) (hw _ (List.mem_of_getElem? (i := 56) rfl)) (notFace_of_selects (args := #[]) (mvT hZ (hw _ (List.mem_of_getElem? (i := 58) rfl)))) (hw _ (List.mem_of_getElem? (i := 58) rfl)) (hw _ (List.mem_of_getElem? (i := 57) rfl)) (hw _ (List.mem_of_getElem? (i := 4) rfl)) (hw _ (List.mem_of_getElem? (i := 59) rfl)) (by decide) (a := b491) f520 (argsL := []) (rest := []) (own_rm8_2 l Z a0 hw [] b491 b471 u0 u1 h508 n0  f520 F512 F513 F514 f521) (W := 0) (by decide) (by decide) (by decide) (by decide) rfl (by rw [hml]; rfl) (lenOf own_pd6 rfl) rfl (by show 2 * 0 + _ ≤ _; exact Nat.le_of_eq rfl) (hb hby at_152) (fun T537 h539 v540 Y538 q541 => ?_)
     obtain ⟨rfl, rfl⟩ := q541
     show own_Ends _ _ _ _ (T537.setTop (mkF m 155 #[.val (.int x0), .val (.int x1), .val (.int x2), .val (.int x3), .val (.int x4), .val (.int c_), .val (.int u0), .val (.int u1), .val (.int (2 : Int32)), .val (.ref b471), .val (.ref b491), .val (.int (-1 : Int32)), .val (.int (0 : Int32)), .val (.int (0 : Int32)), .val (.int (2 : Int32))] [(.int (1 : Int32))]))
     refine own_st (fun t_ => XS.iload (own_here Y538) hx rfl (hb hby at_155) rfl) ?_
     show own_Ends _ _ _ _ (T537.setTop (mkF m 157 #[.val (.int x0), .val (.int x1), .val (.int x2), .val (.int x3), .val (.int x4), .val (.int c_), .val (.int u0), .val (.int u1), .val (.int (2 : Int32)), .val (.ref b471), .val (.ref b491), .val (.int (-1 : Int32)), .val (.int (0 : Int32)), .val (.int (0 : Int32)), .val (.int (2 : Int32))] [(.int (2 : Int32)), (.int (1 : Int32))]))
     refine own_st (fun t_ => XS.iconst (own_here Y538) hx rfl (hb hby at_157) ) ?_
     show own_Ends _ _ _ _ (T537.setTop (mkF m 158 #[.val (.int x0), .val (.int x1), .val (.int x2), .val (.int x3), .val (.int x4), .val (.int c_), .val (.int u0), .val (.int u1), .val (.int (2 : Int32)), .val (.ref b471), .val (.ref b491), .val (.int (-1 : Int32)), .val (.int (0 : Int32)), .val (.int (0 : Int32)), .val (.int (2 : Int32))] [(.int (2 : Int32)), (.int (2 : Int32)), (.int (1 : Int32))]))
     refine own_st (fun t_ => XS.icmpNo (own_here Y538) hx rfl (hb hby at_158) rfl (XT.ii_lt_f (by decide))) ?_
     show own_Ends _ _ _ _ (T537.setTop (mkF m 161 #[.val (.int x0), .val (.int x1), .val (.int x2), .val (.int x3), .val (.int x4), .val (.int c_), .val (.int u0), .val (.int u1), .val (.int (2 : Int32)), .val (.ref b471), .val (.ref b491), .val (.int (-1 : Int32)), .val (.int (0 : Int32)), .val (.int (0 : Int32)), .val (.int (2 : Int32))] [(.int (1 : Int32))]))
     refine own_st (fun t_ => XS.iconst (own_here Y538) hx rfl (hb hby at_161) ) ?_
     show own_Ends _ _ _ _ (T537.setTop (mkF m 162 #[.val (.int x0), .val (.int x1), .val (.int x2), .val (.int x3), .val (.int x4), .val (.int c_), .val (.int u0), .val (.int u1), .val (.int (2 : Int32)), .val (.ref b471), .val (.ref b491), .val (.int (-1 : Int32)), .val (.int (0 : Int32)), .val (.int (0 : Int32)), .val (.int (2 : Int32))] [(.int (1 : Int32)), (.int (1 : Int32))]))
     refine own_st (fun t_ => XS.goto (own_here Y538) hx rfl (pc0 := 162) (pc' := 166) rfl (hb hby at_162) (by decide) (by decide)) ?_
     show own_Ends _ _ _ _ (T537.setTop (mkF m 166 #[.val (.int x0), .val (.int x1), .val (.int x2), .val (.int x3), .val (.int x4), .val (.int c_), .val (.int u0), .val (.int u1), .val (.int (2 : Int32)), .val (.ref b471), .val (.ref b491), .val (.int (-1 : Int32)), .val (.int (0 : Int32)), .val (.int (0 : Int32)), .val (.int (2 : Int32))] [(.int (1 : Int32)), (.int (1 : Int32))]))
     refine own_st (fun t_ => XS.icmpNo (own_here Y538) hx rfl (hb hby at_166) rfl (XT.ii_ne_f (by decide))) ?_
     show own_Ends _ _ _ _ (T537.setTop (mkF m 169 #[.val (.int x0), .val (.int x1), .val (.int x2), .val (.int x3), .val (.int x4), .val (.int c_), .val (.int u0), .val (.int u1), .val (.int (2 : Int32)), .val (.ref b471), .val (.ref b491), .val (.int (-1 : Int32)), .val (.int (0 : Int32)), .val (.int (0 : Int32)), .val (.int (2 : Int32))] []))
     refine own_st (fun t_ => XS.aload (own_here Y538) hx rfl (hb hby at_169) rfl rfl) ?_
     show own_Ends _ _ _ _ (T537.setTop (mkF m 171 #[.val (.int x0), .val (.int x1), .val (.int x2), .val (.int x3), .val (.int x4), .val (.int c_), .val (.int u0), .val (.int u1), .val (.int (2 : Int32)), .val (.ref b471), .val (.ref b491), .val (.int (-1 : Int32)), .val (.int (0 : Int32)), .val (.int (0 : Int32)), .val (.int (2 : Int32))] [(.ref b471)]))
     refine own_st (fun t_ => XS.iconst (own_here Y538) hx rfl (hb hby at_171) ) ?_
     show own_Ends _ _ _ _ (T537.setTop (mkF m 172 #[.val (.int x0), .val (.int x1), .val (.int x2), .val (.int x3), .val (.int x4), .val (.int c_), .val (.int u0), .val (.int u1), .val (.int (2 : Int32)), .val (.ref b471), .val (.ref b491), .val (.int (-1 : Int32)), .val (.int (0 : Int32)), .val (.int (0 : Int32)), .val (.int (2 : Int32))] [(.int (0 : Int32)), (.ref b471)]))
     refine own_ldB Y538 hx hZ f521 (i := 0) (by decide) (by decide) (Nat.le_of_ble_eq_true rfl) (v := (.int u0)) rfl rfl rfl (hb hby at_172) ?_
     show own_Ends _ _ _ _ (T537.setTop (mkF m 173 #[.val (.int x0), .val (.int x1), .val (.int x2), .val (.int x3), .val (.int x4), .val (.int c_), .val (.int u0), .val (.int u1), .val (.int (2 : Int32)), .val (.ref b471), .val (.ref b491), .val (.int (-1 : Int32)), .val (.int (0 : Int32)), .val (.int (0 : Int32)), .val (.int (2 : Int32))] [(.int u0)]))
     refine own_st (fun t_ => XS.iload (own_here Y538) hx rfl (hb hby at_173) rfl) ?_
     show own_Ends _ _ _ _ (T537.setTop (mkF m 175 #[.val (.int x0), .val (.int x1), .val (.int x2), .val (.int x3), .val (.int x4), .val (.int c_), .val (.int u0), .val (.int u1), .val (.int (2 : Int32)), .val (.ref b471), .val (.ref b491), .val (.int (-1 : Int32)), .val (.int (0 : Int32)), .val (.int (0 : Int32)), .val (.int (2 : Int32))] [(.int u0), (.int u0)]))
     refine own_st (fun t_ => XS.icmpNo (own_here Y538) hx rfl (hb hby at_175) rfl (XT.ii_ne_f rfl)) ?_
     show own_Ends _ _ _ _ (T537.setTop (mkF m 178 #[.val (.int x0), .val (.int x1), .val (.int x2), .val (.int x3), .val (.int x4), .val (.int c_), .val (.int u0), .val (.int u1), .val (.int (2 : Int32)), .val (.ref b471), .val (.ref b491), .val (.int (-1 : Int32)), .val (.int (0 : Int32)), .val (.int (0 : Int32)), .val (.int (2 : Int32))] []))
     refine own_st (fun t_ => XS.aload (own_here Y538) hx rfl (hb hby at_178) rfl rfl) ?_
     show own_Ends _ _ _ _ (T537.setTop (mkF m 180 #[.val (.int x0), .val (.int x1), .val (.int x2), .val (.int x3), .val (.int x4), .val (.int c_), .val (.int u0), .val (.int u1), .val (.int (2 : Int32)), .val (.ref b471), .val (.ref b491), .val (.int (-1 : Int32)), .val (.int (0 : Int32)), .val (.int (0 : Int32)), .val (.int (2 : Int32))] [(.ref b471)]))
     refine own_st (fun t_ => XS.iconst (own_here Y538) hx rfl (hb hby at_180) ) ?_
     show own_Ends _ _ _ _ (T537.setTop (mkF m 181 #[.val (.int x0), .val (.int x1), .val (.int x2), .val (.int x3), .val (.int x4), .val (.int c_), .val (.int u0), .val (.int u1), .val (.int (2 : Int32)), .val (.ref b471), .val (.ref b491), .val (.int (-1 : Int32)), .val (.int (0 : Int32)), .val (.int (0 : Int32)), .val (.int (2 : Int32))] [(.int (1 : Int32)), (.ref b471)]))
     refine own_ldB Y538 hx hZ f521 (i := 1) (by decide) (by decide) (Nat.le_of_ble_eq_true rfl) (v := (.int u1)) rfl rfl rfl (hb hby at_181) ?_
     show own_Ends _ _ _ _ (T537.setTop (mkF m 182 #[.val (.int x0), .val (.int x1), .val (.int x2), .val (.int x3), .val (.int x4), .val (.int c_), .val (.int u0), .val (.int u1), .val (.int (2 : Int32)), .val (.ref b471), .val (.ref b491), .val (.int (-1 : Int32)), .val (.int (0 : Int32)), .val (.int (0 : Int32)), .val (.int (2 : Int32))] [(.int u1)]))
     refine own_st (fun t_ => XS.iload (own_here Y538) hx rfl (hb hby at_182) rfl) ?_
     show own_Ends _ _ _ _ (T537.setTop (mkF m 184 #[.val (.int x0), .val (.int x1), .val (.int x2), .val (.int x3), .val (.int x4), .val (.int c_), .val (.int u0), .val (.int u1), .val (.int (2 : Int32)), .val (.ref b471), .val (.ref b491), .val (.int (-1 : Int32)), .val (.int (0 : Int32)), .val (.int (0 : Int32)), .val (.int (2 : Int32))] [(.int u1), (.int u1)]))
     refine own_st (fun t_ => XS.icmpNo (own_here Y538) hx rfl (hb hby at_184) rfl (XT.ii_ne_f rfl)) ?_
     show own_Ends _ _ _ _ (T537.setTop (mkF m 187 #[.val (.int x0), .val (.int x1), .val (.int x2), .val (.int x3), .val (.int x4), .val (.int c_), .val (.int u0), .val (.int u1), .val (.int (2 : Int32)), .val (.ref b471), .val (.ref b491), .val (.int (-1 : Int32)), .val (.int (0 : Int32)), .val (.int (0 : Int32)), .val (.int (2 : Int32))] []))
     refine own_st (fun t_ => XS.iconst (own_here Y538) hx rfl (hb hby at_187) ) ?_
     show own_Ends _ _ _ _ (T537.setTop (mkF m 188 #[.val (.int x0), .val (.int x1), .val (.int x2), .val (.int x3), .val (.int x4), .val (.int c_), .val (.int u0), .val (.int u1), .val (.int (2 : Int32)), .val (.ref b471), .val (.ref b491), .val (.int (-1 : Int32)), .val (.int (0 : Int32)), .val (.int (0 : Int32)), .val (.int (2 : Int32))] [(.int (1 : Int32))]))
     refine own_st (fun t_ => XS.goto (own_here Y538) hx rfl (pc0 := 188) (pc' := 192) rfl (hb hby at_188) (by decide) (by decide)) ?_
     show own_Ends _ _ _ _ (T537.setTop (mkF m 192 #[.val (.int x0), .val (.int x1), .val (.int x2), .val (.int x3), .val (.int x4), .val (.int c_), .val (.int u0), .val (.int u1), .val (.int (2 : Int32)), .val (.ref b471), .val (.ref b491), .val (.int (-1 : Int32)), .val (.int (0 : Int32)), .val (.int (0 : Int32)), .val (.int (2 : Int32))] [(.int (1 : Int32))]))
     refine own_retN Y538 hx hlk (t := .boolean) hret (by simp) (hb hby at_192) (by decide) (by decide) ?_
     exact rfl
   by_cases c26_542 : (x3 &&& (2 : Int32)) = (0 : Int32)
   ·
    refine own_st (fun t_ => XS.ifYes (own_here Y252) hx rfl (pc0 := 26) (pc' := 35) rfl (hb hby at_26) rfl (XT.i0_eq_t c26_542) (by decide) (by decide)) ?_
    show own_Ends _ _ _ _ (T251.setTop (mkF m 35 #[.val (.int x0), .val (.int x1), .val (.int x2), .val (.int x3), .val (.int x4), .val (.int c_), .val (.int u0), .unset, .unset, .unset, .unset, .unset, .unset, .unset, .unset] []))
    refine own_st (fun t_ => XS.iloadN (own_here Y252) hx rfl (hb hby at_35) rfl) ?_
    show own_Ends _ _ _ _ (T251.setTop (mkF m 36 #[.val (.int x0), .val (.int x1), .val (.int x2), .val (.int x3), .val (.int x4), .val (.int c_), .val (.int u0), .unset, .unset, .unset, .unset, .unset, .unset, .unset, .unset] [(.int x1)]))
    refine own_st (fun t_ => XS.i2b (own_here Y252) hx rfl (hb hby at_36) rfl) ?_
    show own_Ends _ _ _ _ (T251.setTop (mkF m 37 #[.val (.int x0), .val (.int x1), .val (.int x2), .val (.int x3), .val (.int x4), .val (.int c_), .val (.int u0), .unset, .unset, .unset, .unset, .unset, .unset, .unset, .unset] [(.int (x1.toInt8.toInt32))]))
    exact hJ253 T251   ((x1.toInt8.toInt32)) Y252  (by have q := c_i2b x1; omega)
   ·
    refine own_st (fun t_ => XS.ifNo (own_here Y252) hx rfl (hb hby at_26) rfl (XT.i0_eq_f c26_542)) ?_
    show own_Ends _ _ _ _ (T251.setTop (mkF m 29 #[.val (.int x0), .val (.int x1), .val (.int x2), .val (.int x3), .val (.int x4), .val (.int c_), .val (.int u0), .unset, .unset, .unset, .unset, .unset, .unset, .unset, .unset] []))
    refine own_st (fun t_ => XS.iload (own_here Y252) hx rfl (hb hby at_29) rfl) ?_
    show own_Ends _ _ _ _ (T251.setTop (mkF m 31 #[.val (.int x0), .val (.int x1), .val (.int x2), .val (.int x3), .val (.int x4), .val (.int c_), .val (.int u0), .unset, .unset, .unset, .unset, .unset, .unset, .unset, .unset] [(.int c_)]))
    refine own_st (fun t_ => XS.i2b (own_here Y252) hx rfl (hb hby at_31) rfl) ?_
    show own_Ends _ _ _ _ (T251.setTop (mkF m 32 #[.val (.int x0), .val (.int x1), .val (.int x2), .val (.int x3), .val (.int x4), .val (.int c_), .val (.int u0), .unset, .unset, .unset, .unset, .unset, .unset, .unset, .unset] [(.int (c_.toInt8.toInt32))]))
    refine own_st (fun t_ => XS.goto (own_here Y252) hx rfl (pc0 := 32) (pc' := 37) rfl (hb hby at_32) (by decide) (by decide)) ?_
    show own_Ends _ _ _ _ (T251.setTop (mkF m 37 #[.val (.int x0), .val (.int x1), .val (.int x2), .val (.int x3), .val (.int x4), .val (.int c_), .val (.int u0), .unset, .unset, .unset, .unset, .unset, .unset, .unset, .unset] [(.int (c_.toInt8.toInt32))]))
    exact hJ253 T251   ((c_.toInt8.toInt32)) Y252  (by have q := c_i2b c_; omega)
  by_cases c10_543 : (x3 &&& (1 : Int32)) = (0 : Int32)
  ·
   refine own_st (fun t_ => XS.ifYes (own_here Y0) hx rfl (pc0 := 10) (pc' := 19) rfl (hb hby at_10) rfl (XT.i0_eq_t c10_543) (by decide) (by decide)) ?_
   show own_Ends _ _ _ _ (T0.setTop (mkF m 19 #[.val (.int x0), .val (.int x1), .val (.int x2), .val (.int x3), .val (.int x4), .val (.int c_), .unset, .unset, .unset, .unset, .unset, .unset, .unset, .unset, .unset] []))
   refine own_st (fun t_ => XS.iloadN (own_here Y0) hx rfl (hb hby at_19) rfl) ?_
   show own_Ends _ _ _ _ (T0.setTop (mkF m 20 #[.val (.int x0), .val (.int x1), .val (.int x2), .val (.int x3), .val (.int x4), .val (.int c_), .unset, .unset, .unset, .unset, .unset, .unset, .unset, .unset, .unset] [(.int x0)]))
   refine own_st (fun t_ => XS.i2b (own_here Y0) hx rfl (hb hby at_20) rfl) ?_
   show own_Ends _ _ _ _ (T0.setTop (mkF m 21 #[.val (.int x0), .val (.int x1), .val (.int x2), .val (.int x3), .val (.int x4), .val (.int c_), .unset, .unset, .unset, .unset, .unset, .unset, .unset, .unset, .unset] [(.int (x0.toInt8.toInt32))]))
   exact hJ250 T0   ((x0.toInt8.toInt32)) Y0  (by have q := c_i2b x0; omega)
  ·
   refine own_st (fun t_ => XS.ifNo (own_here Y0) hx rfl (hb hby at_10) rfl (XT.i0_eq_f c10_543)) ?_
   show own_Ends _ _ _ _ (T0.setTop (mkF m 13 #[.val (.int x0), .val (.int x1), .val (.int x2), .val (.int x3), .val (.int x4), .val (.int c_), .unset, .unset, .unset, .unset, .unset, .unset, .unset, .unset, .unset] []))
   refine own_st (fun t_ => XS.iload (own_here Y0) hx rfl (hb hby at_13) rfl) ?_
   show own_Ends _ _ _ _ (T0.setTop (mkF m 15 #[.val (.int x0), .val (.int x1), .val (.int x2), .val (.int x3), .val (.int x4), .val (.int c_), .unset, .unset, .unset, .unset, .unset, .unset, .unset, .unset, .unset] [(.int c_)]))
   refine own_st (fun t_ => XS.i2b (own_here Y0) hx rfl (hb hby at_15) rfl) ?_
   show own_Ends _ _ _ _ (T0.setTop (mkF m 16 #[.val (.int x0), .val (.int x1), .val (.int x2), .val (.int x3), .val (.int x4), .val (.int c_), .unset, .unset, .unset, .unset, .unset, .unset, .unset, .unset, .unset] [(.int (c_.toInt8.toInt32))]))
   refine own_st (fun t_ => XS.goto (own_here Y0) hx rfl (pc0 := 16) (pc' := 21) rfl (hb hby at_16) (by decide) (by decide)) ?_
   show own_Ends _ _ _ _ (T0.setTop (mkF m 21 #[.val (.int x0), .val (.int x1), .val (.int x2), .val (.int x3), .val (.int x4), .val (.int c_), .unset, .unset, .unset, .unset, .unset, .unset, .unset, .unset, .unset] [(.int (c_.toInt8.toInt32))]))
   exact hJ250 T0   ((c_.toInt8.toInt32)) Y0  (by have q := c_i2b c_; omega)
set_option maxRecDepth 65536 in
set_option maxHeartbeats 40000000 in
theorem own_comes_1 {Post : Tables → Env → Array Value → State → Outcome → State → Prop} (hpost : ∀ tb e args s v u, (limb_1_1.after args s (.returned v) u = true ∧ limb_1_2.after args s (.returned v) u = true ∧ True) → FrameEnd s (.returned v) u (Jvm.fieldLocs frame_1_writes args s ++ Jvm.arrayLocs frame_1_arrays args s ++ Jvm.staticLocs frame_1_statics s) 24 2176 → Post tb e args s (.returned v) u) :
    ArmFor flags0 classFile x code maxLocals ret World_1 tables_1 room_1 Calls_1 rest_1 Pre_1 Post := by
  intro l hfl _ _ p e ha hc hk s m args below hf hA hF happ hP
  obtain ⟨hcalls, hrest, hpre⟩ := hP
  obtain ⟨-, -, -, hnamed, -, -, -, hat⟩ := (Spec.applies_iff hf).mp happ
  obtain ⟨hg, hn⟩ := and_e (Cond.before_iff.mp (show (Jvm.Cond.and given_1 narrow_1).before args s = true from hpre))
  obtain ⟨g1, g2⟩ := and_e hg
  obtain ⟨g3, g4⟩ := and_e g2
  obtain ⟨g5, g6⟩ := and_e g4
  obtain ⟨g7, g8⟩ := and_e g6
  obtain ⟨g9, g10⟩ := and_e g8
  obtain ⟨w0, w1, w2, w3, w4, rfl⟩ : ∃ w0 w1 w2 w3 w4 : Value, args = #[w0, w1, w2, w3, w4] := by
    have hs : args.size = 5 := by simpa [Cond.value, given_1] using g1
    obtain ⟨L⟩ := args
    match L, hs with
    | [w0, w1, w2, w3, w4], _ => exact ⟨w0, w1, w2, w3, w4, rfl⟩
  have hw := fun d (hd : d ∈ tables_1) => atoms_spec (ws := Jvm.Cond.code x code maxLocals ret :: tables_1) hat d (List.mem_cons_of_mem _ hd)
  have hfit : Fit s := fun {y c} hc i hi => by
    obtain ⟨ha, rfl⟩ := Array.getElem?_eq_some_iff.mp hc
    have q := List.all_eq_true.mp ((Array.all_eq_true_iff_forall_mem.mp hF) _ (Array.getElem_mem ha)) i (List.mem_range.mpr hi)
    simpa [Array.getElem?_eq_getElem hi] using q
  obtain ⟨i0, ei0⟩ := is_v g3
  obtain rfl : w0 = (.int i0) := Option.some.inj ei0
  obtain ⟨i1, ei1⟩ := is_v g5
  obtain rfl : w1 = (.int i1) := Option.some.inj ei1
  obtain ⟨i2, ei2⟩ := is_v g7
  obtain rfl : w2 = (.int i2) := Option.some.inj ei2
  obtain ⟨i3, ei3⟩ := is_v g9
  obtain rfl : w3 = (.int i3) := Option.some.inj ei3
  obtain ⟨i4, ei4⟩ := is_v g10
  obtain rfl : w4 = (.int i4) := Option.some.inj ei4
  obtain ⟨n, o, h1, h2, h3, _, L, rfl, ⟨N, rfl⟩, hq⟩ := own_rm0 l s _ hw tables_1 i0 i1 i2 i3 i4  s.heap s.heap.size (Nat.le_refl _)  p e ha hc hk s m _ below hf ((Spec.applies_iff_loose hf).mp happ).1 ⟨rfl, State.Warmed39.refl s, rfl⟩ trivial
  refine ⟨n, _, h1, h2, h3, hpost _ _ _ _ _ _ ⟨Cond.after_iff.mpr rfl, Cond.after_iff.mpr (eq_i res_at (Term.int_eval (1)) rfl), trivial⟩ ⟨hq.1, hq.2.1, (hq.2.2.sift fun y hy => Or.inr (N y hy)).mono (by decide) (by decide)⟩⟩
theorem main_1_1 : Claimed_1_1 := own_comes_1 fun _ _ _ _ _ _ h hF => ⟨h.1, hF⟩
theorem main_1_2 : Claimed_1_2 := own_comes_1 fun _ _ _ _ _ _ h hF => ⟨h.2.1, hF⟩
end Jvm.Pilot.@@N@@
namespace Jvm.Pilot.@@N@@
open Jvm Jvm.ClassFile Sem Op Lib Jvm.Free Jvm.Stand Jvm.Pilot.@@N@@.Jvm.D
/-! MADE BY PROGRAM (witnessworld.py) out of the Statement's table words and the real class files: 16 classes; the members and pool entries that the words name. The judged class is class 1, her method 1. -/
namespace start1
open Jvm.ClassFile
def u (s : String) : CpInfo := .utf8 (stringToUtf16 s)
/-- a pool by its gaps: so many unusable entries, then the entry; so many at the end -/
def gap : Nat → List CpInfo → List CpInfo
  | 0, r => r
  | n + 1, r => .unusable :: gap n r
def poolList (es : List (Nat × CpInfo)) (last : Nat) : List CpInfo := es.foldr (fun e r => gap e.1 (e.2 :: r)) (gap last [])
def pool (es : List (Nat × CpInfo)) (last : Nat) : Array CpInfo := ⟨poolList es last⟩
def fileOf (pool : Array CpInfo) (this : Nat) (attrs : Array Attribute := #[]) (ms : Array MethodInfo := #[]) (fl : Nat := 33) (sup : Nat := 0) (ifs : Array Nat := #[]) (fds : Array FieldInfo := #[]) : ClassFile where
  minorVersion := 0
  majorVersion := 65
  constantPool := pool
  accessFlags := fl
  thisClass := this
  superClass := sup
  interfaces := ifs
  fields := fds
  methods := ms
  attributes := attrs
def plain (name : String) (sup : Option ClassId) : Class where
  name := name
  kind := .ordinary
  loader := none
  accessFlags := 33
  super := sup
  interfaces := #[]
  cf := none
  fields := #[]
  methods := #[]
  instanceTypes := #[]
  staticTypes := #[]
  resolved := #[]
  callSites := []
  init := .initialized
  statics := none
  mirror := none

def pool0 : Array CpInfo := pool [(5, u "<init>"), (0, u "()V"), (1, .class_ 10), (1, u "java/lang/Object")] 113

def k0c0 : Code := { maxStack := 0, maxLocals := 1, code := object_method_1_code, exceptionTable := #[], attributes := #[] }
def k0m0 : Method := { name := "<init>", desc := "()V", sig := { parameters := [], returnType := none }, accessFlags := 1, code := some k0c0 }
/-- java/lang/Object -/
def k0 : Class := { plain "java/lang/Object" none with
  accessFlags := 33
  interfaces := #[]
  cf := some (fileOf pool0 8 #[] #[{ accessFlags := 1, nameIndex := 5, descriptorIndex := 6, attributes := #[] }] 33 0 #[] #[])
  fields := #[]
  methods := #[k0m0]
  instanceTypes := #[]
  staticTypes := #[]
  resolved := Array.replicate 124 none
  statics := none }

def pool1 : Array CpInfo := pool [(2, .class_ 4), (1, u "java/lang/Object"), (0, u "<init>"), (0, u "()V"), (0, .integer 2147483647), (0, .class_ 9), (0, u "com/example/deft_wiring/deftwiring/context/XmlScanner"), (0, .methodref 8 11), (0, .nameAndType 5 12), (0, u "([BI)V"), (0, .methodref 14 15), (0, .class_ 16), (0, .nameAndType 17 18), (0, u "com/example/deft_wiring/deftwiring/context/XmlScannerSkipPinLaw"), (0, u "at"), (0, u "(BBI)I"), (0, .methodref 8 20), (0, .nameAndType 21 22), (0, u "skip"), (0, u "(C)Z"), (0, .methodref 8 24), (0, .nameAndType 25 26), (0, u "peek"), (0, u "()I"), (0, .methodref 8 28), (0, .nameAndType 29 30), (0, u "atEnd"), (0, u "()Z"), (2, u "law"), (0, u "(IIIII)Z")] 5

def k1m0 : Method := { name := "<init>", desc := "()V", sig := { parameters := [], returnType := none }, accessFlags := 1, code := none }
def k1c1 : Code := { maxStack := 4, maxLocals := 15, code := code, exceptionTable := #[], attributes := #[] }
def k1m1 : Method := { name := "law", desc := "(IIIII)Z", sig := { parameters := [.int, .int, .int, .int, .int], returnType := some .boolean }, accessFlags := 9, code := some k1c1 }
def k1c2 : Code := { maxStack := 2, maxLocals := 3, code := method_3_code, exceptionTable := #[], attributes := #[] }
def k1m2 : Method := { name := "at", desc := "(BBI)I", sig := { parameters := [.byte, .byte, .int], returnType := some .int }, accessFlags := 10, code := some k1c2 }
/-- com/example/deft_wiring/deftwiring/context/XmlScannerSkipPinLaw -/
def k1 : Class := { plain "com/example/deft_wiring/deftwiring/context/XmlScannerSkipPinLaw" (some 0) with
  accessFlags := 49
  interfaces := #[]
  cf := some (fileOf pool1 14 #[] #[{ accessFlags := 1, nameIndex := 5, descriptorIndex := 6, attributes := #[] }, { accessFlags := 9, nameIndex := 33, descriptorIndex := 34, attributes := #[] }, { accessFlags := 10, nameIndex := 17, descriptorIndex := 18, attributes := #[] }] 49 2 #[] #[])
  fields := #[]
  methods := #[k1m0, k1m1, k1m2]
  instanceTypes := #[]
  staticTypes := #[]
  resolved := Array.replicate 40 none
  statics := none }

def pool2 : Array CpInfo := pool [(1, .class_ 2), (0, u "com/example/deft_wiring/deftwiring/context/XmlScanner$Names"), (0, .methodref 1 4), (0, .nameAndType 5 6), (0, u "<init>"), (0, u "()V"), (0, .methodref 8 9), (0, .class_ 10), (0, .nameAndType 5 11), (0, u "com/example/deft_wiring/deftwiring/context/XmlScanner"), (0, u "([BI[BILcom/example/deft_wiring/deftwiring/context/XmlScanner$Names;)V"), (0, .methodref 13 4), (0, .class_ 14), (0, u "java/lang/Object"), (0, .fieldref 8 16), (0, .nameAndType 17 18), (0, u "bytes"), (0, u "[B"), (0, .fieldref 8 20), (0, .nameAndType 21 22), (0, u "end"), (0, u "I"), (0, .fieldref 8 24), (0, .nameAndType 25 18), (0, u "document"), (0, .fieldref 8 27), (0, .nameAndType 28 22), (0, u "referenceEnd"), (0, .fieldref 8 30), (0, .nameAndType 31 32), (0, u "names"), (0, u "Lcom/example/deft_wiring/deftwiring/context/XmlScanner$Names;"), (0, .fieldref 8 34), (0, .nameAndType 35 22), (0, u "pos"), (3, u "()I"), (11, u "skip"), (16, u "()Z"), (23, u "peek"), (19, u "(C)Z"), (101, u "ASCII_NAMES"), (47, u "NAMES_KEPT"), (2, u "NAME_START"), (0, u "B"), (1, u "NAME_PART"), (1, u "([BI)V"), (4, u "atEnd")] 53

def k2c0 : Code := { maxStack := 7, maxLocals := 3, code := prog_76_method_1_code, exceptionTable := #[], attributes := #[] }
def k2m0 : Method := { name := "<init>", desc := "([BI)V", sig := { parameters := [(.array .byte), .int], returnType := none }, accessFlags := 0, code := some k2c0 }
def k2c1 : Code := { maxStack := 2, maxLocals := 6, code := prog_76_method_2_code, exceptionTable := #[], attributes := #[] }
def k2m1 : Method := { name := "<init>", desc := "([BI[BILcom/example/deft_wiring/deftwiring/context/XmlScanner$Names;)V", sig := { parameters := [(.array .byte), .int, (.array .byte), .int, (.object "com/example/deft_wiring/deftwiring/context/XmlScanner$Names")], returnType := none }, accessFlags := 2, code := some k2c1 }
def k2c2 : Code := { maxStack := 2, maxLocals := 1, code := prog_76_method_4_code, exceptionTable := #[], attributes := #[] }
def k2m2 : Method := { name := "atEnd", desc := "()Z", sig := { parameters := [], returnType := some .boolean }, accessFlags := 0, code := some k2c2 }
def k2c3 : Code := { maxStack := 2, maxLocals := 1, code := prog_76_method_5_code, exceptionTable := #[], attributes := #[] }
def k2m3 : Method := { name := "peek", desc := "()I", sig := { parameters := [], returnType := some .int }, accessFlags := 0, code := some k2c3 }
def k2c4 : Code := { maxStack := 3, maxLocals := 2, code := prog_76_method_6_code, exceptionTable := #[], attributes := #[] }
def k2m4 : Method := { name := "skip", desc := "(C)Z", sig := { parameters := [.char], returnType := some .boolean }, accessFlags := 0, code := some k2c4 }
/-- com/example/deft_wiring/deftwiring/context/XmlScanner -/
def k2 : Class := { plain "com/example/deft_wiring/deftwiring/context/XmlScanner" (some 0) with
  accessFlags := 32
  interfaces := #[]
  cf := some (fileOf pool2 8 #[.nestMembers #[1]] #[{ accessFlags := 0, nameIndex := 5, descriptorIndex := 270, attributes := #[] }, { accessFlags := 2, nameIndex := 5, descriptorIndex := 11, attributes := #[] }, { accessFlags := 0, nameIndex := 275, descriptorIndex := 68, attributes := #[] }, { accessFlags := 0, nameIndex := 92, descriptorIndex := 39, attributes := #[] }, { accessFlags := 0, nameIndex := 51, descriptorIndex := 112, attributes := #[] }] 32 13 #[] #[{ accessFlags := 26, nameIndex := 262, descriptorIndex := 22, attributes := #[] }, { accessFlags := 26, nameIndex := 265, descriptorIndex := 266, attributes := #[] }, { accessFlags := 26, nameIndex := 268, descriptorIndex := 266, attributes := #[] }, { accessFlags := 26, nameIndex := 214, descriptorIndex := 18, attributes := #[] }, { accessFlags := 18, nameIndex := 17, descriptorIndex := 18, attributes := #[] }, { accessFlags := 18, nameIndex := 21, descriptorIndex := 22, attributes := #[] }, { accessFlags := 18, nameIndex := 25, descriptorIndex := 18, attributes := #[] }, { accessFlags := 18, nameIndex := 28, descriptorIndex := 22, attributes := #[] }, { accessFlags := 18, nameIndex := 31, descriptorIndex := 32, attributes := #[] }, { accessFlags := 2, nameIndex := 35, descriptorIndex := 22, attributes := #[] }])
  fields := #[{ name := "NAMES_KEPT", type := .int, accessFlags := 26, slot := 0, constantValue := 0 }, { name := "NAME_START", type := .byte, accessFlags := 26, slot := 1, constantValue := 0 }, { name := "NAME_PART", type := .byte, accessFlags := 26, slot := 2, constantValue := 0 }, { name := "ASCII_NAMES", type := (.array .byte), accessFlags := 26, slot := 3, constantValue := 0 }, { name := "bytes", type := (.array .byte), accessFlags := 18, slot := 0, constantValue := 0 }, { name := "end", type := .int, accessFlags := 18, slot := 1, constantValue := 0 }, { name := "document", type := (.array .byte), accessFlags := 18, slot := 2, constantValue := 0 }, { name := "referenceEnd", type := .int, accessFlags := 18, slot := 3, constantValue := 0 }, { name := "names", type := (.object "com/example/deft_wiring/deftwiring/context/XmlScanner$Names"), accessFlags := 18, slot := 4, constantValue := 0 }, { name := "pos", type := .int, accessFlags := 2, slot := 5, constantValue := 0 }]
  methods := #[k2m0, k2m1, k2m2, k2m3, k2m4]
  instanceTypes := #[(.array .byte), .int, (.array .byte), .int, (.object "com/example/deft_wiring/deftwiring/context/XmlScanner$Names"), .int]
  staticTypes := #[.int, .byte, .byte, (.array .byte)]
  resolved := ((Array.replicate 329 none).setIfInBounds 1 (some (.cls 3))).setIfInBounds 3 (some (.method ⟨3, 0⟩))
  statics := none }

def pool3 : Array CpInfo := pool [(1, .class_ 2), (0, u "com/example/deft_wiring/deftwiring/context/XmlScanner"), (0, .methodref 4 5), (0, .class_ 6), (0, .nameAndType 7 8), (0, u "java/lang/Object"), (0, u "<init>"), (0, u "()V"), (0, .class_ 10), (0, u "java/lang/String"), (0, .fieldref 12 13), (0, .class_ 14), (0, .nameAndType 15 16), (0, u "com/example/deft_wiring/deftwiring/context/XmlScanner$Names"), (0, u "strings"), (0, u "[Ljava/lang/String;"), (0, .class_ 18), (0, u "[B"), (0, .fieldref 12 20), (0, .nameAndType 21 22), (0, u "bytes"), (0, u "[[B")] 25

def k3c0 : Code := { maxStack := 2, maxLocals := 1, code := prog_77_method_1_code, exceptionTable := #[], attributes := #[] }
def k3m0 : Method := { name := "<init>", desc := "()V", sig := { parameters := [], returnType := none }, accessFlags := 2, code := some k3c0 }
/-- com/example/deft_wiring/deftwiring/context/XmlScanner$Names -/
def k3 : Class := { plain "com/example/deft_wiring/deftwiring/context/XmlScanner$Names" (some 0) with
  accessFlags := 32
  interfaces := #[]
  cf := some (fileOf pool3 12 #[.nestHost 1] #[{ accessFlags := 2, nameIndex := 7, descriptorIndex := 8, attributes := #[] }] 32 4 #[] #[{ accessFlags := 18, nameIndex := 15, descriptorIndex := 16, attributes := #[] }, { accessFlags := 18, nameIndex := 21, descriptorIndex := 22, attributes := #[] }])
  fields := #[{ name := "strings", type := (.array (.object "java/lang/String")), accessFlags := 18, slot := 0, constantValue := 0 }, { name := "bytes", type := (.array (.array .byte)), accessFlags := 18, slot := 1, constantValue := 0 }]
  methods := #[k3m0]
  instanceTypes := #[(.array (.object "java/lang/String")), (.array (.array .byte))]
  staticTypes := #[]
  resolved := Array.replicate 48 none
  statics := none }

def pool4 : Array CpInfo := pool [(1, .class_ 2), (0, u "java/io/Serializable"), (0, .class_ 4), (0, u "java/lang/Object")] 2

/-- java/io/Serializable -/
def k4 : Class := { plain "java/io/Serializable" (some 0) with
  accessFlags := 1537
  interfaces := #[]
  cf := some (fileOf pool4 1 #[] #[] 1537 3 #[] #[])
  fields := #[]
  methods := #[]
  instanceTypes := #[]
  staticTypes := #[]
  resolved := Array.replicate 7 none
  statics := none }

def pool5 : Array CpInfo := pool [(1, .class_ 2), (0, u "java/lang/Comparable"), (0, .class_ 4), (0, u "java/lang/Object")] 7

/-- java/lang/Comparable -/
def k5 : Class := { plain "java/lang/Comparable" (some 0) with
  accessFlags := 1537
  interfaces := #[]
  cf := some (fileOf pool5 1 #[] #[] 1537 3 #[] #[])
  fields := #[]
  methods := #[]
  instanceTypes := #[]
  staticTypes := #[]
  resolved := Array.replicate 12 none
  statics := none }

def pool6 : Array CpInfo := pool [(2, .class_ 4), (1, u "java/lang/CharSequence"), (42, .class_ 48), (0, u "java/lang/CharSequence$1CodePointIterator"), (10, .class_ 60), (0, u "java/lang/CharSequence$1CharIterator"), (5, .class_ 67), (0, u "java/lang/Object")] 63

/-- java/lang/CharSequence -/
def k6 : Class := { plain "java/lang/CharSequence" (some 0) with
  accessFlags := 1537
  interfaces := #[]
  cf := some (fileOf pool6 2 #[.nestMembers #[47, 59]] #[] 1537 66 #[] #[])
  fields := #[]
  methods := #[]
  instanceTypes := #[]
  staticTypes := #[]
  resolved := Array.replicate 131 none
  statics := none }

def pool7 : Array CpInfo := pool [(1, .class_ 2), (0, u "java/lang/constant/Constable"), (0, .class_ 4), (0, u "java/lang/Object")] 6

/-- java/lang/constant/Constable -/
def k7 : Class := { plain "java/lang/constant/Constable" (some 0) with
  accessFlags := 1537
  interfaces := #[]
  cf := some (fileOf pool7 1 #[] #[] 1537 3 #[] #[])
  fields := #[]
  methods := #[]
  instanceTypes := #[]
  staticTypes := #[]
  resolved := Array.replicate 11 none
  statics := none }

def pool8 : Array CpInfo := pool [(1, .class_ 2), (0, u "java/lang/constant/ConstantDesc"), (0, .class_ 4), (0, u "java/lang/Object")] 32

/-- java/lang/constant/ConstantDesc -/
def k8 : Class := { plain "java/lang/constant/ConstantDesc" (some 0) with
  accessFlags := 1537
  interfaces := #[]
  cf := some (fileOf pool8 1 #[] #[] 1537 3 #[] #[])
  fields := #[]
  methods := #[]
  instanceTypes := #[]
  staticTypes := #[]
  resolved := Array.replicate 37 none
  statics := none }

def pool9 : Array CpInfo := pool [(2, .class_ 4), (1, u "java/lang/Object"), (0, u "<init>"), (0, u "()V"), (3, .class_ 12), (1, u "java/lang/String"), (0, u "value"), (0, u "[B"), (2, u "coder"), (0, u "B"), (2, u "hash"), (0, u "I"), (2, u "hashIsZero"), (0, u "Z"), (13, u "COMPACT_STRINGS"), (534, .class_ 576), (0, u "java/lang/CharSequence"), (22, u "CASE_INSENSITIVE_ORDER"), (0, u "Ljava/util/Comparator;"), (500, u "serialPersistentFields"), (0, u "[Ljava/io/ObjectStreamField;"), (0, .class_ 1104), (0, u "java/lang/String$CaseInsensitiveComparator"), (1, .class_ 1107), (0, u "java/io/Serializable"), (0, .class_ 1109), (0, u "java/lang/Comparable"), (0, .class_ 1111), (0, u "java/lang/constant/Constable"), (0, .class_ 1113), (0, u "java/lang/constant/ConstantDesc"), (2, u "serialVersionUID"), (0, u "J"), (3, u "REPL"), (0, u "C"), (2, u "LATIN1"), (1, u "UTF16")] 323

def k9m0 : Method := { name := "<init>", desc := "()V", sig := { parameters := [], returnType := none }, accessFlags := 1, code := none }
/-- java/lang/String -/
def k9 : Class := { plain "java/lang/String" (some 0) with
  accessFlags := 49
  interfaces := #[4, 5, 6, 7, 8]
  cf := some (fileOf pool9 10 #[.nestMembers #[1103]] #[{ accessFlags := 1, nameIndex := 5, descriptorIndex := 6, attributes := #[] }] 49 2 #[1106, 1108, 575, 1110, 1112] #[{ accessFlags := 18, nameIndex := 13, descriptorIndex := 14, attributes := #[] }, { accessFlags := 18, nameIndex := 17, descriptorIndex := 18, attributes := #[] }, { accessFlags := 2, nameIndex := 21, descriptorIndex := 22, attributes := #[] }, { accessFlags := 2, nameIndex := 25, descriptorIndex := 26, attributes := #[] }, { accessFlags := 26, nameIndex := 1116, descriptorIndex := 1117, attributes := #[] }, { accessFlags := 24, nameIndex := 40, descriptorIndex := 26, attributes := #[] }, { accessFlags := 26, nameIndex := 1101, descriptorIndex := 1102, attributes := #[] }, { accessFlags := 26, nameIndex := 1121, descriptorIndex := 1122, attributes := #[] }, { accessFlags := 25, nameIndex := 599, descriptorIndex := 600, attributes := #[] }, { accessFlags := 24, nameIndex := 1125, descriptorIndex := 18, attributes := #[] }, { accessFlags := 24, nameIndex := 1127, descriptorIndex := 18, attributes := #[] }])
  fields := #[{ name := "value", type := (.array .byte), accessFlags := 18, slot := 0, constantValue := 0 }, { name := "coder", type := .byte, accessFlags := 18, slot := 1, constantValue := 0 }, { name := "hash", type := .int, accessFlags := 2, slot := 2, constantValue := 0 }, { name := "hashIsZero", type := .boolean, accessFlags := 2, slot := 3, constantValue := 0 }, { name := "serialVersionUID", type := .long, accessFlags := 26, slot := 0, constantValue := 0 }, { name := "COMPACT_STRINGS", type := .boolean, accessFlags := 24, slot := 1, constantValue := 0 }, { name := "serialPersistentFields", type := (.array (.object "java/io/ObjectStreamField")), accessFlags := 26, slot := 2, constantValue := 0 }, { name := "REPL", type := .char, accessFlags := 26, slot := 3, constantValue := 0 }, { name := "CASE_INSENSITIVE_ORDER", type := (.object "java/util/Comparator"), accessFlags := 25, slot := 4, constantValue := 0 }, { name := "LATIN1", type := .byte, accessFlags := 24, slot := 5, constantValue := 0 }, { name := "UTF16", type := .byte, accessFlags := 24, slot := 6, constantValue := 0 }]
  methods := #[k9m0]
  instanceTypes := #[(.array .byte), .byte, .int, .boolean]
  staticTypes := #[.long, .boolean, (.array (.object "java/io/ObjectStreamField")), .char, (.object "java/util/Comparator"), .byte, .byte]
  resolved := Array.replicate 1451 none
  statics := none }

def pool10 : Array CpInfo := pool [(1, u "java/lang/Cloneable"), (0, .class_ 1), (0, u "java/lang/Object"), (0, .class_ 3)] 3

/-- java/lang/Cloneable -/
def k10 : Class := { plain "java/lang/Cloneable" (some 0) with
  accessFlags := 1537
  interfaces := #[]
  cf := some (fileOf pool10 2 #[] #[] 1537 4 #[] #[])
  fields := #[]
  methods := #[]
  instanceTypes := #[]
  staticTypes := #[]
  resolved := Array.replicate 8 none
  statics := none }

/-- the primitive byte -/
def k11 : Class := { plain "byte" none with kind := .primitive 'B', accessFlags := 0x411 }
/-- [B -/
def k12 : Class := { plain "[B" (some 0) with kind := .array 11 .byte, interfaces := #[10, 4], accessFlags := 1041 }

/-- the primitive int -/
def k13 : Class := { plain "int" none with kind := .primitive 'I', accessFlags := 0x411 }
/-- [I -/
def k14 : Class := { plain "[I" (some 0) with kind := .array 13 .int, interfaces := #[10, 4], accessFlags := 1041 }

/-- [Ljava/lang/String; -/
def k15 : Class := { plain "[Ljava/lang/String;" (some 0) with kind := .array 9 (.object "java/lang/String"), interfaces := #[10, 4], accessFlags := 1041 }

def heap : Heap := #[]
def k16 : Class := { plain "[[B" (some 0) with kind := .array 12 (.array .byte), interfaces := #[10, 4], accessFlags := 1041 }
def classes : Array Class := #[k0, k1, k2, k3, k4, k5, k6, k7, k8, k9, k10, k11, k12, k13, k14, k15, k16]
def interned : List (Array UInt16 × Addr) := []
def slotsUsed : Nat := 0
def theMethod : MethodId := ⟨1, 1⟩
def args0 : Array Value := #[.int 10, .int 17, .int 24, .int 31, .int 38]
def aboutOver (below : List Frame) : State where
  vm := { classes := classes, interned := interned.toArray }
  heap := heap
  slotsUsed := slotsUsed
  threads := #[{ frames := .invoking theMethod args0 :: below }]
def below0 : List Frame := [.native { method := ⟨0, 0⟩, args := #[] }]
def about1 : State := aboutOver below0
def p0 : Program := .bare "" "" ""
def e0 : Env := launch0.env 0 0 0
theorem w_frames : about1.frames = Frame.invoking theMethod args0 :: below0 := rfl
set_option maxRecDepth 65536 in
theorem w_args : argsFit about1.vm theMethod args0 = true := by decide +kernel
set_option maxRecDepth 65536 in
theorem w_heap : heapFits about1 = true := by decide +kernel
set_option maxRecDepth 65536 in
theorem w_runnable : about1.curStatus? = some .runnable := by decide +kernel
set_option maxRecDepth 65536 in
theorem w_alone : about1.alone = true := by decide +kernel
set_option maxRecDepth 65536 in
theorem w_named : about1.methodNamed? x = some theMethod := by decide +kernel
set_option maxRecDepth 65536 in
theorem w_hears : about1.hears theMethod below0 = true := by decide +kernel
set_option maxRecDepth 65536 in
theorem w_ripe : about1.ripe theMethod args0 below0 = true := by decide +kernel
theorem w_running : about1.status = .running := rfl
set_option maxRecDepth 65536 in
theorem w_room : about1.hasRoom e0.platform room_1 = true :=
  launch0.hasRoom_least _ room_1 (by decide +kernel) (by decide +kernel) (by decide +kernel) (by decide +kernel) (by decide +kernel) (by decide +kernel)
theorem allAtoms_all (ts : List Jvm.Cond) (a : Array Jvm.Value) (st : Jvm.State) : (allAtoms ts).before a st = ts.all (fun c => c.before a st) := by
  induction ts with
  | nil => rfl
  | cons c t ih =>
    show (Jvm.Cond.and c (allAtoms t)).before a st = _
    rw [Jvm.Cond.before_and, ih, List.all_cons]
def words1 : List Jvm.Cond := Jvm.Cond.code x code maxLocals ret :: tables_1
/-- a 'code' word, met by the world's own term for the bytes: nothing is compared byte by byte -/
theorem code_word {y : MethodName} {bytes : ByteArray} {mx : Nat} {rt : Option FieldType} {a : Array Value} {s : State} {m : MethodId} {meth : Method} {c : Code} (h1 : s.methodNamed? y = some m) (h2 : s.vm.method? m = some meth) (h3 : meth.code = some c) (h4 : c.code = bytes)
    (h5 : (c.maxLocals == mx && c.exceptionTable.isEmpty && decide (c.maxStack ≤ mostOperands) && decide (meth.sig.returnType = rt) && !meth.locks && decide (parseMethodDescriptor y.desc = some meth.sig)) = true) : (Jvm.Cond.code y bytes mx rt).before a s = true := by
  simp only [Bool.and_eq_true, beq_iff_eq, Bool.not_eq_true', decide_eq_true_eq] at h5
  obtain ⟨⟨⟨⟨⟨g1, g2⟩, g3⟩, g4⟩, g5⟩, g6⟩ := h5
  simp [Cond.before, Cond.holds, Cond.value, h1, h2, h3, h4, g1, g2, g3, g4, g5, g6]
def isCode : Jvm.Cond → Bool
  | .code _ _ _ _ => true
  | _ => false
theorem all_split {L : List Jvm.Cond} {P : Jvm.Cond → Bool} (h1 : L.all (fun c => isCode c || P c) = true) (h2 : ∀ c ∈ L.filter isCode, P c = true) : L.all P = true := by
  refine List.all_eq_true.mpr fun c hc => ?_
  have h := List.all_eq_true.mp h1 c hc
  rcases Bool.eq_false_or_eq_true (isCode c) with hi | hi
  · exact h2 c (List.mem_filter.mpr ⟨hc, hi⟩)
  · simpa [hi] using h
set_option maxRecDepth 65536 in
theorem w_c0 : (Jvm.Cond.code x code maxLocals ret).before args0 about1 = true := code_word (m := ⟨1, 1⟩) (meth := k1m1) (c := k1c1) (by decide +kernel) rfl rfl rfl (by decide +kernel)
set_option maxRecDepth 65536 in
theorem w_c1 : (Jvm.Cond.code ({ cls := "com/example/deft_wiring/deftwiring/context/XmlScanner", name := "<init>", desc := "([BI)V" } : Jvm.MethodName) prog_76_method_1_code (3 : Nat) (Option.none : Option Jvm.ClassFile.FieldType)).before args0 about1 = true := code_word (m := ⟨2, 0⟩) (meth := k2m0) (c := k2c0) (by decide +kernel) rfl rfl rfl (by decide +kernel)
set_option maxRecDepth 65536 in
theorem w_c2 : (Jvm.Cond.code ({ cls := "com/example/deft_wiring/deftwiring/context/XmlScanner$Names", name := "<init>", desc := "()V" } : Jvm.MethodName) prog_77_method_1_code (1 : Nat) (Option.none : Option Jvm.ClassFile.FieldType)).before args0 about1 = true := code_word (m := ⟨3, 0⟩) (meth := k3m0) (c := k3c0) (by decide +kernel) rfl rfl rfl (by decide +kernel)
set_option maxRecDepth 65536 in
theorem w_c3 : (Jvm.Cond.code ({ cls := "java/lang/Object", name := "<init>", desc := "()V" } : Jvm.MethodName) object_method_1_code (1 : Nat) (Option.none : Option Jvm.ClassFile.FieldType)).before args0 about1 = true := code_word (m := ⟨0, 0⟩) (meth := k0m0) (c := k0c0) (by decide +kernel) rfl rfl rfl (by decide +kernel)
set_option maxRecDepth 65536 in
theorem w_c4 : (Jvm.Cond.code ({ cls := "com/example/deft_wiring/deftwiring/context/XmlScanner", name := "<init>", desc := "([BI[BILcom/example/deft_wiring/deftwiring/context/XmlScanner$Names;)V" } : Jvm.MethodName) prog_76_method_2_code (6 : Nat) (Option.none : Option Jvm.ClassFile.FieldType)).before args0 about1 = true := code_word (m := ⟨2, 1⟩) (meth := k2m1) (c := k2c1) (by decide +kernel) rfl rfl rfl (by decide +kernel)
set_option maxRecDepth 65536 in
theorem w_c5 : (Jvm.Cond.code ({ cls := "com/example/deft_wiring/deftwiring/context/XmlScannerSkipPinLaw", name := "at", desc := "(BBI)I" } : Jvm.MethodName) method_3_code (3 : Nat) (Option.some Jvm.ClassFile.FieldType.int)).before args0 about1 = true := code_word (m := ⟨1, 2⟩) (meth := k1m2) (c := k1c2) (by decide +kernel) rfl rfl rfl (by decide +kernel)
set_option maxRecDepth 65536 in
theorem w_c6 : (Jvm.Cond.code ({ cls := "com/example/deft_wiring/deftwiring/context/XmlScanner", name := "skip", desc := "(C)Z" } : Jvm.MethodName) prog_76_method_6_code (2 : Nat) (Option.some Jvm.ClassFile.FieldType.boolean)).before args0 about1 = true := code_word (m := ⟨2, 4⟩) (meth := k2m4) (c := k2c4) (by decide +kernel) rfl rfl rfl (by decide +kernel)
set_option maxRecDepth 65536 in
theorem w_c7 : (Jvm.Cond.code ({ cls := "com/example/deft_wiring/deftwiring/context/XmlScanner", name := "peek", desc := "()I" } : Jvm.MethodName) prog_76_method_5_code (1 : Nat) (Option.some Jvm.ClassFile.FieldType.int)).before args0 about1 = true := code_word (m := ⟨2, 3⟩) (meth := k2m3) (c := k2c3) (by decide +kernel) rfl rfl rfl (by decide +kernel)
set_option maxRecDepth 65536 in
theorem w_c8 : (Jvm.Cond.code ({ cls := "com/example/deft_wiring/deftwiring/context/XmlScanner", name := "atEnd", desc := "()Z" } : Jvm.MethodName) prog_76_method_4_code (1 : Nat) (Option.some Jvm.ClassFile.FieldType.boolean)).before args0 about1 = true := code_word (m := ⟨2, 2⟩) (meth := k2m2) (c := k2c2) (by decide +kernel) rfl rfl rfl (by decide +kernel)
def codes1 : List Jvm.Cond := [Jvm.Cond.code x code maxLocals ret, Jvm.Cond.code ({ cls := "com/example/deft_wiring/deftwiring/context/XmlScanner", name := "<init>", desc := "([BI)V" } : Jvm.MethodName) prog_76_method_1_code (3 : Nat) (Option.none : Option Jvm.ClassFile.FieldType), Jvm.Cond.code ({ cls := "com/example/deft_wiring/deftwiring/context/XmlScanner$Names", name := "<init>", desc := "()V" } : Jvm.MethodName) prog_77_method_1_code (1 : Nat) (Option.none : Option Jvm.ClassFile.FieldType), Jvm.Cond.code ({ cls := "java/lang/Object", name := "<init>", desc := "()V" } : Jvm.MethodName) object_method_1_code (1 : Nat) (Option.none : Option Jvm.ClassFile.FieldType), Jvm.Cond.code ({ cls := "com/example/deft_wiring/deftwiring/context/XmlScanner", name := "<init>", desc := "([BI[BILcom/example/deft_wiring/deftwiring/context/XmlScanner$Names;)V" } : Jvm.MethodName) prog_76_method_2_code (6 : Nat) (Option.none : Option Jvm.ClassFile.FieldType), Jvm.Cond.code ({ cls := "com/example/deft_wiring/deftwiring/context/XmlScannerSkipPinLaw", name := "at", desc := "(BBI)I" } : Jvm.MethodName) method_3_code (3 : Nat) (Option.some Jvm.ClassFile.FieldType.int), Jvm.Cond.code ({ cls := "com/example/deft_wiring/deftwiring/context/XmlScanner", name := "skip", desc := "(C)Z" } : Jvm.MethodName) prog_76_method_6_code (2 : Nat) (Option.some Jvm.ClassFile.FieldType.boolean), Jvm.Cond.code ({ cls := "com/example/deft_wiring/deftwiring/context/XmlScanner", name := "peek", desc := "()I" } : Jvm.MethodName) prog_76_method_5_code (1 : Nat) (Option.some Jvm.ClassFile.FieldType.int), Jvm.Cond.code ({ cls := "com/example/deft_wiring/deftwiring/context/XmlScanner", name := "atEnd", desc := "()Z" } : Jvm.MethodName) prog_76_method_4_code (1 : Nat) (Option.some Jvm.ClassFile.FieldType.boolean)]
set_option maxRecDepth 65536 in
theorem codes_eq : words1.filter isCode = codes1 := rfl
theorem w_codes : ∀ c ∈ words1.filter isCode, c.before args0 about1 = true := by
  rw [codes_eq]
  intro c hc
  simp only [codes1, List.mem_cons, List.not_mem_nil, or_false] at hc
  rcases hc with rfl | rfl | rfl | rfl | rfl | rfl | rfl | rfl | rfl
  · exact w_c0
  · exact w_c1
  · exact w_c2
  · exact w_c3
  · exact w_c4
  · exact w_c5
  · exact w_c6
  · exact w_c7
  · exact w_c8
set_option maxRecDepth 65536 in
theorem w_t1 : (words1.take 24).all (fun c => isCode c || c.before args0 about1) = true := by decide +kernel
set_option maxRecDepth 65536 in
theorem w_t2 : ((words1.drop 24).take 24).all (fun c => isCode c || c.before args0 about1) = true := by decide +kernel
set_option maxRecDepth 65536 in
theorem w_t3 : ((words1.drop 24).drop 24).all (fun c => isCode c || c.before args0 about1) = true := by decide +kernel
theorem w_tables : (allAtoms (Jvm.Cond.code x code maxLocals ret :: tables_1)).before args0 about1 = true := by
  rw [allAtoms_all]
  show words1.all (fun c => c.before args0 about1) = true
  refine all_split ?_ w_codes
  rw [← List.take_append_drop 24 words1, List.all_append, w_t1, ← List.take_append_drop 24 (words1.drop 24), List.all_append, w_t2, w_t3]
  rfl
set_option maxRecDepth 65536 in
theorem w_case : (Jvm.Cond.and given_1 narrow_1).before args0 about1 = true := by decide +kernel
theorem w_applies : (headSpec (Jvm.Cond.code x code maxLocals ret :: tables_1) room_1).applies x e0.platform about1 = true :=
  (Spec.applies_iff w_frames).mpr ⟨w_running, w_runnable, w_alone, w_named, w_hears, w_ripe, w_room, w_tables⟩
theorem atStart : AtStart classFile x code maxLocals ret World_1 tables_1 room_1 Calls_1 rest_1 Pre_1 launch0 p0 e0 about1 theMethod args0 below0 :=
  ⟨lists_1, trivial, launch0.admits_env _ _ _, launch0.least_env, fairChoices_fair.cas, fairChoices_fair.clock, w_frames, w_args, w_heap, w_applies, trivial, trivial, w_case⟩
end start1
theorem witness_1 : WitnessClaimed_1 := ⟨start1.p0, start1.e0, start1.about1, start1.theMethod, start1.args0, start1.below0, start1.atStart⟩
end Jvm.Pilot.@@N@@
