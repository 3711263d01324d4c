import JvmDerived
import JvmDerived.Pilot.@@N@@Statement
import JvmDerived.Pilot.@@N@@Code
set_option linter.unusedVariables false
set_option linter.unusedSimpArgs false
namespace Jvm.Pilot.@@N@@
open Jvm Jvm.ClassFile Sem Op Lib Jvm.Free Jvm.Stand Jvm.LawKit Jvm.RoadKit Bundle Jvm.Pilot.@@N@@.Jvm.D
section OwnLayer
/-- the run from A ends, and P holds of how it ends -/
def own_Ends (tb : Tables) (e : Env) (below : List Frame) (P : Outcome → State → Prop) (A : State) : Prop :=
  ∃ s₂ o, Steps tb e below A s₂ ∧ s₂.status = .running ∧ Ended s₂ below o ∧ P o s₂
theorem own_st {tb : Tables} {e : Env} {below : List Frame} {P : Outcome → State → Prop} {A B : State} (h : ∀ t, Steps tb e below B t → Steps tb e below A t) (k : own_Ends tb e below P B) : own_Ends tb e below P A := by
  obtain ⟨s2, o, h1, h2⟩ := k
  exact ⟨s2, o, h _ h1, h2⟩
/-- where the walk stands: the state T, its heap h, k cells and n slots made, nothing below n0 written -/
def own_S (p : Program) (l : Launch) (e : Env) (R : Room) (s : State) (m : MethodId) (args : Array Value) (below : List Frame) (meth : Method) (c : Code) (n0 : Nat) (T : State) (h : Heap) (k n : Nat) : Prop :=
  ∃ locs, Stand p l e R s m args below meth c T locs k n ∧ T.heap = h ∧ Fr n0 locs
def own_P (s : State) (n0 : Nat) (Qf : Option Value → Heap → Prop) (C S : Nat) (o : Outcome) (U' : State) : Prop := ∃ v L, o = .returned v ∧ (Fr n0 L ∧ Qf v U'.heap) ∧ FrameEnd s o U' L C S
/-- a body's contract: called with 'as' at the heap h0 it returns, and Qf holds of what it returns and of the heap -/
def own_Con (l : Launch) (Z : State) (y : MethodName) (bytes : ByteArray) (maxL : Nat) (ret : Option FieldType) (ws : List Jvm.Cond) (rm : Room) (as' : Array Value) (h0 : Heap) (n0 : Nat) (Qf : Option Value → Heap → Prop) : Prop :=
  MetFree l y (head1 (Jvm.Cond.code y bytes maxL ret :: ws) rm) (fun a U => a = as' ∧ Z.Warmed39 U.vm ∧ U.heap = h0) (fun _ _ _ _ _ => True) (fun _ U o U' => ∃ v L, o = .returned v ∧ (Fr n0 L ∧ Qf v U'.heap) ∧ FrameEnd U o U' L rm.cells rm.slots)
variable {p : Program} {l : Launch} {e : Env} {R : Room} {s : State} {m : MethodId} {args : Array Value} {below : List Frame} {meth : Method} {c : Code} {n0 : Nat} {T : State} {h : Heap} {k n : Nat} {Z : State} {a0 : Array Value} {P : Outcome → State → Prop}
theorem own_here (Y : own_S p l e R s m args below meth c n0 T h k n) : At T m c below := by
  obtain ⟨_, X, -⟩ := Y
  exact X.here
theorem own_body {y : MethodName} {bytes : ByteArray} {maxL : Nat} {ret : Option FieldType} {ws : List Jvm.Cond} {rm : Room} {as' : Array Value} {h0 : Heap} {Qf : Option Value → Heap → Prop} (hpn : plainFor y = true)
    (hbody : ∀ (p : Program) (e : Env) (s : State) (m : MethodId) (below : List Frame) (meth : Method) (c : Code) (T : State), p.tables.exec = Jvm.exec → Z.Warmed39 s.vm → c.code = bytes → c.maxLocals = maxL → s.vm.findClass y.cls = some m.cls → meth.name = y.name → meth.sig.returnType = ret → meth.locks = false →
      own_S p l e rm s m as' below meth c n0 T h0 0 0 → own_Ends p.tables e below (own_P s n0 Qf rm.cells rm.slots) (T.setTop (entryFrame m as' maxL))) : own_Con l Z y bytes maxL ret ws rm as' h0 n0 Qf := by
  refine MetFree.of_bodySF hpn hisR ?_
  intro p e s m args below meth c s₁ Bd hml0 hP hK
  obtain ⟨rfl, hZ, hh⟩ := hP
  have hown : s.vm.findClass y.cls = some m.cls := findClass_of_methodNamed Bd.named
  have hnm := (name_of_methodNamed Bd.named Bd.method).1
  exact hbody p e s m below meth c s₁ Bd.exec hZ Bd.bytes hml0 hown hnm Bd.returns Bd.notSynchronized ⟨[], Stand.of_body Bd, by rw [← hh, Bd.state]; rfl, Fr.nil n0⟩
theorem own_leave (Y : own_S p l e R s m args below meth c n0 T h k n) (hlk : meth.locks = false) {v : Option Value} (hv : meth.sig.returnType = none → v = none) {Qf : Option Value → Heap → Prop} {C S : Nat} (hk : k ≤ C) (hn : n ≤ S) (hQ : Qf v h) {A : State}
    (st : ∀ (locs : List Loc) (fs : List Frame), Stand p l e R s m args below meth c T locs k n → (∀ (f : JFrame) (acts : List Action), f.method = m → f.locked = none → f.entered = [] → (doReturn e (T.setTop f) acts v).1 = T.setFrames fs) → Steps p.tables e below A (T.setFrames fs)) : own_Ends p.tables e below (own_P s n0 Qf C S) A := by
  obtain ⟨locs, X, e1, N⟩ := Y
  obtain ⟨fs, hr, hrun, hended, hW, hsame⟩ := X.leave hv hlk
  refine ⟨_, _, st locs fs X hr, hrun, hended, v, locs, rfl, ⟨N, ?_⟩, ⟨_, rfl⟩, hW, hsame.mono hk hn⟩
  show Qf v T.heap
  rw [e1]; exact hQ
theorem own_ret (Y : own_S p l e R s m args below meth c n0 T h k n) (hx : p.tables.exec = Jvm.exec) (hlk : meth.locks = false) {pc : Nat} {Ls : Array Slot} {w : Value} {t : FieldType} {i : Instr} {rest : List Value} (hret : meth.sig.returnType = some t) (hd : decode c.code pc = .ok (i, 1)) (hn : narrow t w = w)
    (hi : (i = .ireturn ∧ (t = .int ∨ t = .boolean ∨ t = .byte ∨ t = .char ∨ t = .short) ∧ ∃ z, w = .int z) ∨ (i = .lreturn ∧ t = .long ∧ ∃ z, w = .long z) ∨ (i = .dreturn ∧ t = .double ∧ ∃ z, w = .double z) ∨ (i = .freturn ∧ t = .float ∧ ∃ z, w = .float z) ∨ (i = .areturn ∧ t.isReference = true ∧ w.isRef = true))
    {Qf : Option Value → Heap → Prop} {C S : Nat} (hk : k ≤ C) (hs : n ≤ S) (hQ : Qf (some w) h) : own_Ends p.tables e below (own_P s n0 Qf C S) (T.setTop (mkF m pc Ls (w :: rest))) :=
  own_leave Y hlk (fun q => by rw [hret] at q; cases q) hk hs hQ fun _ _ X hr => retOut X hx hret hn hi hd hr
theorem own_retI (Y : own_S p l e R s m args below meth c n0 T h k n) (hx : p.tables.exec = Jvm.exec) (hlk : meth.locks = false) {pc : Nat} {Ls : Array Slot} {z : Int32} {rest : List Value} (hret : meth.sig.returnType = some .int) (hd : decode c.code pc = .ok (.ireturn, 1))
    {Qf : Option Value → Heap → Prop} {C S : Nat} (hk : k ≤ C) (hs : n ≤ S) (hQ : Qf (some (.int z)) h) : own_Ends p.tables e below (own_P s n0 Qf C S) (T.setTop (mkF m pc Ls (.int z :: rest))) :=
  own_ret Y hx hlk hret hd rfl (Or.inl ⟨rfl, Or.inl rfl, _, rfl⟩) hk hs hQ
theorem own_retN (Y : own_S p l e R s m args below meth c n0 T h k n) (hx : p.tables.exec = Jvm.exec) (hlk : meth.locks = false) {pc : Nat} {Ls : Array Slot} {z : Int32} {t : FieldType} {rest : List Value} (hret : meth.sig.returnType = some t) (ht : t = .boolean ∨ t = .byte ∨ t = .char ∨ t = .short) (hd : decode c.code pc = .ok (.ireturn, 1))
    {Qf : Option Value → Heap → Prop} {C S : Nat} (hk : k ≤ C) (hs : n ≤ S) (hQ : Qf (some (.int (nar t z))) h) : own_Ends p.tables e below (own_P s n0 Qf C S) (T.setTop (mkF m pc Ls (.int z :: rest))) :=
  own_leave Y hlk (fun q => by rw [hret] at q; cases q) hk hs hQ fun _ _ X hr => retN X hx hret ht hd hr
theorem own_retJ (Y : own_S p l e R s m args below meth c n0 T h k n) (hx : p.tables.exec = Jvm.exec) (hlk : meth.locks = false) {pc : Nat} {Ls : Array Slot} {z : Int64} {rest : List Value} (hret : meth.sig.returnType = some .long) (hd : decode c.code pc = .ok (.lreturn, 1))
    {Qf : Option Value → Heap → Prop} {C S : Nat} (hk : k ≤ C) (hs : n ≤ S) (hQ : Qf (some (.long z)) h) : own_Ends p.tables e below (own_P s n0 Qf C S) (T.setTop (mkF m pc Ls (.long z :: rest))) :=
  own_ret Y hx hlk hret hd rfl (Or.inr (Or.inl ⟨rfl, rfl, _, rfl⟩)) hk hs hQ
theorem own_retA (Y : own_S p l e R s m args below meth c n0 T h k n) (hx : p.tables.exec = Jvm.exec) (hlk : meth.locks = false) {pc : Nat} {Ls : Array Slot} {w : Value} {t : FieldType} {rest : List Value} (hret : meth.sig.returnType = some t) (ht : t.isReference = true) (hw : w.isRef = true) (hn : narrow t w = w) (hd : decode c.code pc = .ok (.areturn, 1))
    {Qf : Option Value → Heap → Prop} {C S : Nat} (hk : k ≤ C) (hs : n ≤ S) (hQ : Qf (some w) h) : own_Ends p.tables e below (own_P s n0 Qf C S) (T.setTop (mkF m pc Ls (w :: rest))) :=
  own_ret Y hx hlk hret hd hn (Or.inr (Or.inr (Or.inr (Or.inr ⟨rfl, ht, hw⟩)))) hk hs hQ
theorem own_retV (Y : own_S p l e R s m args below meth c n0 T h k n) (hx : p.tables.exec = Jvm.exec) (hlk : meth.locks = false) {pc : Nat} {Ls : Array Slot} (hret : meth.sig.returnType = none) (hd : decode c.code pc = .ok (.return_, 1))
    {Qf : Option Value → Heap → Prop} {C S : Nat} (hk : k ≤ C) (hs : n ≤ S) (hQ : Qf none h) : own_Ends p.tables e below (own_P s n0 Qf C S) (T.setTop (mkF m pc Ls [])) :=
  own_leave Y hlk (fun _ => rfl) hk hs hQ fun _ _ X hr => X.returnOut hx hret hd hr
/-! fields -/
theorem own_getF (Y : own_S p l e R s m args below meth c n0 T h k n) (hx : p.tables.exec = Jvm.exec) (hZ : Z.Warmed39 s.vm) {own R0 O f d host : String} {index : Nat} (hown : s.vm.findClass own = some m.cls) (w : (Jvm.Cond.fieldLink own index R0 f d).before a0 Z = true ∨ (Jvm.Cond.fieldLinkNest own index R0 f d host).before a0 Z = true) (via : Via Z R0 O f d) {a : Addr} {v : Value} (F : Fld Z h a O f d v)
    {g : JFrame} (hg : g.method = m) {rest : List Value} (hs : g.stack = .ref a :: rest) (hd : decode c.code g.pc = .ok (.getfield index, 3)) (K : ∀ T', own_S p l e R s m args below meth c n0 T' h k n → own_Ends p.tables e below P (T'.setTop { g with pc := g.pc + 3, stack := v :: rest })) : own_Ends p.tables e below P (T.setTop g) := by
  obtain ⟨locs, X, e1, N⟩ := Y
  obtain ⟨T', X', e', st⟩ := getF X hx hZ hown w via e1 F hg hs hd
  exact own_st st (K T' ⟨locs, X', e', N⟩)
theorem own_putF (Y : own_S p l e R s m args below meth c n0 T h k n) (hx : p.tables.exec = Jvm.exec) (hZ : Z.Warmed39 s.vm) {own R0 O f d host C : String} {index kk : Nat} {ty : FieldType} (hown : s.vm.findClass own = some m.cls) (w : (Jvm.Cond.fieldLink own index R0 f d).before a0 Z = true ∨ (Jvm.Cond.fieldLinkNest own index R0 f d host).before a0 Z = true) (via : Via Z R0 O f d) {a : Addr} {v old : Value} (F : Fld Z h a O f d old) (E : Exa Z h a C)
    (L : (Jvm.Cond.lays C O f d).before a0 Z = true ∨ ((Jvm.Cond.laysFinal C O f d).before a0 Z = true ∧ own = O ∧ meth.name = "<init>")) (wi : (Jvm.Cond.instantiable C kk).before a0 Z = true) (ha : n0 ≤ a) (hty : parseFieldDescriptor d = some ty) (hn : narrow ty v = v) (hf : fits ty v = true) {g : JFrame} (hg : g.method = m) {rest : List Value} (hs : g.stack = v :: .ref a :: rest) (hd : decode c.code g.pc = .ok (.putfield index, 3))
    (K : ∀ T' h', own_S p l e R s m args below meth c n0 T' h' k n → Wr h h' a (Jvm.RoadKit.slotOf Z O f d) v → Fld Z h' a O f d v → own_Ends p.tables e below P (T'.setTop { g with pc := g.pc + 3, stack := rest })) : own_Ends p.tables e below P (T.setTop g) := by
  obtain ⟨locs, X, e1, N⟩ := Y
  obtain ⟨T', h', X', e', W, st⟩ := putF X hx hZ hown w via e1 F E L wi hty hn hf hg hs hd
  exact own_st st (K T' h' ⟨_, X', e', Fr.snoc X' N ha⟩ W (F.same W))
theorem own_putFN (Y : own_S p l e R s m args below meth c n0 T h k n) (hx : p.tables.exec = Jvm.exec) (hZ : Z.Warmed39 s.vm) {own R0 O f d C : String} {index kk : Nat} {ty : FieldType} (hown : s.vm.findClass own = some m.cls) (w : (Jvm.Cond.fieldLink own index R0 f d).before a0 Z = true) (via : Via Z R0 O f d) {a : Addr} {v v' old : Value} (F : Fld Z h a O f d old) (E : Exa Z h a C)
    (L : (Jvm.Cond.lays C O f d).before a0 Z = true ∨ ((Jvm.Cond.laysFinal C O f d).before a0 Z = true ∧ own = O ∧ meth.name = "<init>")) (wi : (Jvm.Cond.instantiable C kk).before a0 Z = true) (ha : n0 ≤ a) (hty : parseFieldDescriptor d = some ty) (hn : narrow ty v = v') (hf : fits ty v' = true) {g : JFrame} (hg : g.method = m) {rest : List Value} (hs : g.stack = v :: .ref a :: rest) (hd : decode c.code g.pc = .ok (.putfield index, 3))
    (K : ∀ T' h', own_S p l e R s m args below meth c n0 T' h' k n → Wr h h' a (Jvm.RoadKit.slotOf Z O f d) v' → Fld Z h' a O f d v' → own_Ends p.tables e below P (T'.setTop { g with pc := g.pc + 3, stack := rest })) : own_Ends p.tables e below P (T.setTop g) := by
  obtain ⟨locs, X, e1, N⟩ := Y
  obtain ⟨T', h', X', e', W, st⟩ := putFN X hx hZ hown w via e1 F E L wi hty hn hf hg hs hd
  exact own_st st (K T' h' ⟨_, X', e', Fr.snoc X' N ha⟩ W (F.same W))
theorem own_getS (Y : own_S p l e R s m args below meth c n0 T h k n) (hx : p.tables.exec = Jvm.exec) (hZ : Z.Warmed39 s.vm) {own R0 O f d host : String} {index : Nat} (hown : s.vm.findClass own = some m.cls) (w : (Jvm.Cond.fieldLink own index R0 f d).before a0 Z = true ∨ (Jvm.Cond.fieldLinkNest own index R0 f d host).before a0 Z = true) (via : Via Z R0 O f d) {v : Value} (F : Sta Z h O f d v)
    {g : JFrame} (hg : g.method = m) (hd : decode c.code g.pc = .ok (.getstatic index, 3)) (K : ∀ T', own_S p l e R s m args below meth c n0 T' h k n → own_Ends p.tables e below P (T'.setTop { g with pc := g.pc + 3, stack := v :: g.stack })) : own_Ends p.tables e below P (T.setTop g) := by
  obtain ⟨locs, X, e1, N⟩ := Y
  obtain ⟨T', X', e', st⟩ := getS2 X hx hZ hown w via e1 F hg hd
  exact own_st st (K T' ⟨locs, X', e', N⟩)
/-! new objects -/
theorem own_new (Y : own_S p l e R s m args below meth c n0 T h k n) (hx : p.tables.exec = Jvm.exec) (hZ : Z.Warmed39 s.vm) {own C : String} {index nn : Nat} (hown : s.vm.findClass own = some m.cls) (w : (Jvm.Cond.classLink own index C).before a0 Z = true) (wi : (Jvm.Cond.instantiable C nn).before a0 Z = true) (wz : (Jvm.Cond.initialized C).before a0 Z = true)
    {g : JFrame} (hg : g.method = m) (hd : decode c.code g.pc = .ok (.new index, 3)) (hc : k + 1 ≤ R.cells) (hl : n + nn ≤ R.slots)
    (K : ∀ T' h' b, b = h.size → own_S p l e R s m args below meth c n0 T' h' (k + 1) (n + nn) → Ext h h' → Exa Z h' b C → (∀ (O nm d : String) (ty : FieldType), Laid Z a0 C O nm d → parseFieldDescriptor d = some ty → Fld Z h' b O nm d (defaultValue ty)) →
      own_Ends p.tables e below P (T'.setTop { g with pc := g.pc + 3, stack := .ref b :: g.stack })) : own_Ends p.tables e below P (T.setTop g) := by
  obtain ⟨locs, X, e1, N⟩ := Y
  obtain ⟨T', h', X', e', E, A, D, -, st⟩ := newO X hx hZ hown w wi wz e1 hg hd hc hl
  exact own_st st (K T' h' _ rfl ⟨locs, X', e', N⟩ E A (fun _ _ _ _ q r => D q r))
theorem own_initO (Y : own_S p l e R s m args below meth c n0 T h k n) (hx : p.tables.exec = Jvm.exec) (hZ : Z.Warmed39 s.vm) {own : String} {idx : Nat} (hown : s.vm.findClass own = some m.cls) (w1 : (Jvm.Cond.methodLink own idx Lib.objectInit).before a0 Z = true) (w2 : (Jvm.Cond.instanceMethod Lib.objectInit).before a0 Z = true) (w3 : (Jvm.Cond.code Lib.objectInit ⟨#[0xb1]⟩ 1 none).before a0 Z = true)
    {g : JFrame} (hg : g.method = m) (hsize : g.locals.size = c.maxLocals) {a : Addr} {rest : List Value} (hs : g.stack = .ref a :: rest) (hd : decode c.code g.pc = .ok (.invokespecial idx, 3)) (hf : 1 ≤ R.frames) {W : Nat} (hW : 2 * g.monitorRoom + (rest.map fun v => v.category).sum ≤ W) (hl : W + 12 ≤ R.locals)
    (K : ∀ T', own_S p l e R s m args below meth c n0 T' h k n → own_Ends p.tables e below P (T'.setTop { g with pc := g.pc + 3, stack := rest })) : own_Ends p.tables e below P (T.setTop g) := by
  obtain ⟨locs, X, e1, N⟩ := Y
  obtain ⟨T', X', e', st⟩ := initO X hx hZ hown w1 w2 w3 e1 hg hsize hs hd hf hW hl
  exact own_st st (K T' ⟨locs, X', e', N⟩)
/-! arrays: the cell's slots are the list vs -/
def own_A (Z : State) (h : Heap) (a : Addr) (ty : FieldType) (vs : List Value) : Prop := ∃ c : Cell, Arr Z h a c ty ∧ c.slots.toList = vs ∧ vs.length < 2 ^ 31
theorem own_A.lt {a : Addr} {ty : FieldType} {vs : List Value} (A : own_A Z h a ty vs) : a < h.size := by obtain ⟨c, A, -⟩ := A; exact A.lt
theorem own_A.ext {h' : Heap} {a : Addr} {ty : FieldType} {vs : List Value} (A : own_A Z h a ty vs) (E : Ext h h') : own_A Z h' a ty vs := by obtain ⟨c, A, r⟩ := A; exact ⟨c, A.ext E, r⟩
theorem own_A.other {h' : Heap} {a b : Addr} {sl : Nat} {v : Value} {ty : FieldType} {vs : List Value} (A : own_A Z h a ty vs) (W : Wr h h' b sl v) (q : a ≠ b) : own_A Z h' a ty vs := by obtain ⟨c, A, r⟩ := A; exact ⟨c, A.other W q, r⟩
theorem own_A.keep {h' : Heap} {a : Addr} {ws : List Addr} {ty : FieldType} {vs : List Value} (A : own_A Z h a ty vs) (K : Keep h h' ws) (q : a ∉ ws) : own_A Z h' a ty vs := by obtain ⟨c, A, r⟩ := A; exact ⟨c, ⟨K.2.1 a c A.1 q, A.2⟩, r⟩
theorem own_sz {c : Cell} {vs : List Value} (q : c.slots.toList = vs) : c.slots.size = vs.length := by rw [← q]; simp
theorem own_in {c : Cell} {vs : List Value} {j : Int32} {i : Nat} (q : c.slots.toList = vs) (hj : ¬ j < 0) (hi : j.toNatClampNeg = i) (hl : i < vs.length) : ¬ (j < 0 ∨ c.slots.size ≤ j.toNatClampNeg) := by
  rw [own_sz q, hi]; intro z; rcases z with z | z
  · exact hj z
  · omega
theorem own_get {c : Cell} {vs : List Value} {j : Int32} {i : Nat} {v : Value} (q : c.slots.toList = vs) (hi : j.toNatClampNeg = i) (hv : vs[i]? = some v) : c.slots[j.toNatClampNeg]? = some v := by
  rw [hi, ← Array.getElem?_toList, q, hv]
theorem own_A.set {h' : Heap} {a : Addr} {ty : FieldType} {vs : List Value} {cl : Cell} {i : Nat} {v : Value} (A : Arr Z h a cl ty) (q : cl.slots.toList = vs) (hl : vs.length < 2 ^ 31) (W : Wr h h' a i v) : own_A Z h' a ty (vs.set i v) :=
  ⟨_, A.same W, by simp [Cell.setSlot, q], by simpa using hl⟩
theorem own_newP (Y : own_S p l e R s m args below meth c n0 T h k n) (hx : p.tables.exec = Jvm.exec) (hZ : Z.Warmed39 s.vm) {aty : ArrayType} (w : (Jvm.Cond.arrayClass (newarray.typeOf aty)).before a0 Z = true) {g : JFrame} (hg : g.method = m) (hd : decode c.code g.pc = .ok (.newarray aty, 2)) {z : Int32} {rest : List Value} (hs : g.stack = .int z :: rest)
    (hz : ¬ z < 0) {nz cap : Nat} (hn : z.toNatClampNeg = nz) (hcap : nz ≤ cap) (hb : cap * 8 ≤ 536870912) (hc : k + 1 ≤ R.cells) (hl : n + cap ≤ R.slots) {ty : FieldType} (hty : newarray.typeOf aty = ty)
    (K : ∀ T' h' b, b = h.size → own_S p l e R s m args below meth c n0 T' h' (k + 1) (n + cap) → Ext h h' → own_A Z h' b ty (List.replicate nz (defaultValue ty)) → own_Ends p.tables e below P (T'.setTop { g with pc := g.pc + 2, stack := .ref b :: rest })) : own_Ends p.tables e below P (T.setTop g) := by
  obtain ⟨locs, X, e1, N⟩ := Y
  subst hty
  obtain ⟨T', h', cA, X', e', E, A, st⟩ := newP X hx hZ w e1 hg hd hs hz (cap := cap) (by rw [hn]; exact hcap) hb hc hl
  refine own_st st (K T' h' _ rfl ⟨locs, X', e', N⟩ E ⟨_, A, ?_, ?_⟩)
  · simp [newA, hn]
  · simp; omega
theorem own_newR (Y : own_S p l e R s m args below meth c n0 T h k n) (hx : p.tables.exec = Jvm.exec) (hZ : Z.Warmed39 s.vm) {own C : String} {index : Nat} (hown : s.vm.findClass own = some m.cls) (w1 : (Jvm.Cond.classLink own index C).before a0 Z = true) (w2 : (Jvm.Cond.arrayOver (.object C)).before a0 Z = true) {g : JFrame} (hg : g.method = m) (hd : decode c.code g.pc = .ok (.anewarray index, 3)) {z : Int32} {rest : List Value} (hs : g.stack = .int z :: rest)
    (hz : ¬ z < 0) {nz cap : Nat} (hn : z.toNatClampNeg = nz) (hcap : nz ≤ cap) (hb : cap * 8 ≤ 536870912) (hc : k + 1 ≤ R.cells) (hl : n + cap ≤ R.slots)
    (K : ∀ T' h' b, b = h.size → own_S p l e R s m args below meth c n0 T' h' (k + 1) (n + cap) → Ext h h' → own_A Z h' b (.object C) (List.replicate nz .null) → own_Ends p.tables e below P (T'.setTop { g with pc := g.pc + 3, stack := .ref b :: rest })) : own_Ends p.tables e below P (T.setTop g) := by
  obtain ⟨locs, X, e1, N⟩ := Y
  obtain ⟨T', h', cA, X', e', E, A, O, st⟩ := newR X hx hZ hown w1 w2 e1 hg hd hs hz (cap := cap) (by rw [hn]; exact hcap) hb hc hl
  refine own_st st (K T' h' _ rfl ⟨locs, X', e', N⟩ E ⟨_, A, ?_, ?_⟩)
  · simp [newA, hn, defaultValue]
  · simp; omega
theorem own_mono (Y : own_S p l e R s m args below meth c n0 T h k n) {k' n' : Nat} (hk : k ≤ k') (hn : n ≤ n') : own_S p l e R s m args below meth c n0 T h k' n' := by
  obtain ⟨locs, X, r⟩ := Y
  exact ⟨locs, { X with same := X.same.mono hk hn }, r⟩
theorem own_stI (Y : own_S p l e R s m args below meth c n0 T h k n) (hx : p.tables.exec = Jvm.exec) (hZ : Z.Warmed39 s.vm) {a : Addr} {vs : List Value} (A : own_A Z h a .int vs) (ha : n0 ≤ a) {j x : Int32} {i : Nat} (hj : ¬ j < 0) (hi : j.toNatClampNeg = i) (hl : i < vs.length) {g : JFrame} (hg : g.method = m) {rest : List Value} (hs : g.stack = .int x :: .int j :: .ref a :: rest) (hd : decode c.code g.pc = .ok (.iastore, 1))
    (K : ∀ T' h', own_S p l e R s m args below meth c n0 T' h' k n → Wr h h' a i (.int x) → own_A Z h' a .int (vs.set i (.int x)) → own_Ends p.tables e below P (T'.setTop { g with pc := g.pc + 1, stack := rest })) : own_Ends p.tables e below P (T.setTop g) := by
  obtain ⟨locs, X, e1, N⟩ := Y
  obtain ⟨cl, A, q, r⟩ := A
  obtain ⟨T', h', X', e', W, st⟩ := stI X hx hZ e1 A (own_in q hj hi hl) hg hs hd
  have W' := W; rw [hi] at W'
  exact own_st st (K T' h' ⟨_, X', e', Fr.snoc X' N ha⟩ W' (own_A.set A q r W'))
theorem own_stJ (Y : own_S p l e R s m args below meth c n0 T h k n) (hx : p.tables.exec = Jvm.exec) (hZ : Z.Warmed39 s.vm) {a : Addr} {vs : List Value} (A : own_A Z h a .long vs) (ha : n0 ≤ a) {j : Int32} {x : Int64} {i : Nat} (hj : ¬ j < 0) (hi : j.toNatClampNeg = i) (hl : i < vs.length) {g : JFrame} (hg : g.method = m) {rest : List Value} (hs : g.stack = .long x :: .int j :: .ref a :: rest) (hd : decode c.code g.pc = .ok (.lastore, 1))
    (K : ∀ T' h', own_S p l e R s m args below meth c n0 T' h' k n → Wr h h' a i (.long x) → own_A Z h' a .long (vs.set i (.long x)) → own_Ends p.tables e below P (T'.setTop { g with pc := g.pc + 1, stack := rest })) : own_Ends p.tables e below P (T.setTop g) := by
  obtain ⟨locs, X, e1, N⟩ := Y
  obtain ⟨cl, A, q, r⟩ := A
  obtain ⟨T', h', X', e', W, st⟩ := stJ X hx hZ e1 A (own_in q hj hi hl) hg hs hd
  have W' := W; rw [hi] at W'
  exact own_st st (K T' h' ⟨_, X', e', Fr.snoc X' N ha⟩ W' (own_A.set A q r W'))
theorem own_stB (Y : own_S p l e R s m args below meth c n0 T h k n) (hx : p.tables.exec = Jvm.exec) (hZ : Z.Warmed39 s.vm) {a : Addr} {vs : List Value} (A : own_A Z h a .byte vs) (ha : n0 ≤ a) {j x : Int32} {i : Nat} (hj : ¬ j < 0) (hi : j.toNatClampNeg = i) (hl : i < vs.length) {g : JFrame} (hg : g.method = m) {rest : List Value} (hs : g.stack = .int x :: .int j :: .ref a :: rest) (hd : decode c.code g.pc = .ok (.bastore, 1))
    (K : ∀ T' h', own_S p l e R s m args below meth c n0 T' h' k n → Wr h h' a i (.int x.toInt8.toInt32) → own_A Z h' a .byte (vs.set i (.int x.toInt8.toInt32)) → own_Ends p.tables e below P (T'.setTop { g with pc := g.pc + 1, stack := rest })) : own_Ends p.tables e below P (T.setTop g) := by
  obtain ⟨locs, X, e1, N⟩ := Y
  obtain ⟨cl, A, q, r⟩ := A
  obtain ⟨T', h', X', e', W, st⟩ := stB X hx hZ e1 A (own_in q hj hi hl) hg hs hd
  have W' := W; rw [hi] at W'
  exact own_st st (K T' h' ⟨_, X', e', Fr.snoc X' N ha⟩ W' (own_A.set A q r W'))
theorem own_stC (Y : own_S p l e R s m args below meth c n0 T h k n) (hx : p.tables.exec = Jvm.exec) (hZ : Z.Warmed39 s.vm) {a : Addr} {vs : List Value} (A : own_A Z h a .char vs) (ha : n0 ≤ a) {j x : Int32} {i : Nat} (hj : ¬ j < 0) (hi : j.toNatClampNeg = i) (hl : i < vs.length) {g : JFrame} (hg : g.method = m) {rest : List Value} (hs : g.stack = .int x :: .int j :: .ref a :: rest) (hd : decode c.code g.pc = .ok (.castore, 1))
    (K : ∀ T' h', own_S p l e R s m args below meth c n0 T' h' k n → Wr h h' a i (.int x.toUInt32.toUInt16.toUInt32.toInt32) → own_A Z h' a .char (vs.set i (.int x.toUInt32.toUInt16.toUInt32.toInt32)) → own_Ends p.tables e below P (T'.setTop { g with pc := g.pc + 1, stack := rest })) : own_Ends p.tables e below P (T.setTop g) := by
  obtain ⟨locs, X, e1, N⟩ := Y
  obtain ⟨cl, A, q, r⟩ := A
  obtain ⟨T', h', X', e', W, st⟩ := stC X hx hZ e1 A (own_in q hj hi hl) hg hs hd
  have W' := W; rw [hi] at W'
  exact own_st st (K T' h' ⟨_, X', e', Fr.snoc X' N ha⟩ W' (own_A.set A q r W'))
theorem own_len (Y : own_S p l e R s m args below meth c n0 T h k n) (hx : p.tables.exec = Jvm.exec) (hZ : Z.Warmed39 s.vm) {a : Addr} {ty : FieldType} {vs : List Value} (A : own_A Z h a ty vs) {z : Int32} (hz : vs.length.toInt32 = z) {g : JFrame} (hg : g.method = m) {rest : List Value} (hs : g.stack = .ref a :: rest) (hd : decode c.code g.pc = .ok (.arraylength, 1))
    (K : own_Ends p.tables e below P (T.setTop { g with pc := g.pc + 1, stack := .int z :: rest })) : own_Ends p.tables e below P (T.setTop g) := by
  obtain ⟨locs, X, e1, N⟩ := Y
  obtain ⟨cl, A, q, r⟩ := A
  refine own_st (fun t => X.arraylength hx (by rw [e1]; exact A.1) (State.isArrayOf_alike hZ.alike A.2.1) hg hs hd t) ?_
  rw [own_sz q, hz]; exact K
theorem own_ldI (Y : own_S p l e R s m args below meth c n0 T h k n) (hx : p.tables.exec = Jvm.exec) (hZ : Z.Warmed39 s.vm) {a : Addr} {vs : List Value} (A : own_A Z h a .int vs) {j : Int32} {i : Nat} (hj : ¬ j < 0) (hi : j.toNatClampNeg = i) (hl : i < vs.length) {v : Value} (hv : vs[i]? = some v) {g : JFrame} (hg : g.method = m) {rest : List Value} (hs : g.stack = .int j :: .ref a :: rest) (hd : decode c.code g.pc = .ok (.iaload, 1))
    (K : own_Ends p.tables e below P (T.setTop { g with pc := g.pc + 1, stack := v :: rest })) : own_Ends p.tables e below P (T.setTop g) := by
  obtain ⟨locs, X, e1, N⟩ := Y
  obtain ⟨cl, A, q, r⟩ := A
  exact own_st (fun t => X.iaload hx (by rw [e1]; exact A.1) (State.isArrayOf_alike hZ.alike A.2.1) A.2.2 (own_in q hj hi hl) (own_get q hi hv) hg hs hd t) K
theorem own_ldB (Y : own_S p l e R s m args below meth c n0 T h k n) (hx : p.tables.exec = Jvm.exec) (hZ : Z.Warmed39 s.vm) {a : Addr} {vs : List Value} (A : own_A Z h a .byte vs) {j : Int32} {i : Nat} (hj : ¬ j < 0) (hi : j.toNatClampNeg = i) (hl : i < vs.length) {v : Value} (hv : vs[i]? = some v) {g : JFrame} (hg : g.method = m) {rest : List Value} (hs : g.stack = .int j :: .ref a :: rest) (hd : decode c.code g.pc = .ok (.baload, 1))
    (K : own_Ends p.tables e below P (T.setTop { g with pc := g.pc + 1, stack := v :: rest })) : own_Ends p.tables e below P (T.setTop g) := by
  obtain ⟨locs, X, e1, N⟩ := Y
  obtain ⟨cl, A, q, r⟩ := A
  exact own_st (fun t => X.baloadBytes hx (by rw [e1]; exact A.1) (State.isArrayOf_alike hZ.alike A.2.1) A.2.2 (own_in q hj hi hl) (own_get q hi hv) hg hs hd t) K
theorem own_ldC (Y : own_S p l e R s m args below meth c n0 T h k n) (hx : p.tables.exec = Jvm.exec) (hZ : Z.Warmed39 s.vm) {a : Addr} {vs : List Value} (A : own_A Z h a .char vs) {j : Int32} {i : Nat} (hj : ¬ j < 0) (hi : j.toNatClampNeg = i) (hl : i < vs.length) {v : Value} (hv : vs[i]? = some v) {g : JFrame} (hg : g.method = m) {rest : List Value} (hs : g.stack = .int j :: .ref a :: rest) (hd : decode c.code g.pc = .ok (.caload, 1))
    (K : own_Ends p.tables e below P (T.setTop { g with pc := g.pc + 1, stack := v :: rest })) : own_Ends p.tables e below P (T.setTop g) := by
  obtain ⟨locs, X, e1, N⟩ := Y
  obtain ⟨cl, A, q, r⟩ := A
  exact own_st (fun t => X.caload hx (by rw [e1]; exact A.1) (State.isArrayOf_alike hZ.alike A.2.1) A.2.2 (own_in q hj hi hl) (own_get q hi hv) hg hs hd t) K
theorem own_ldJ (Y : own_S p l e R s m args below meth c n0 T h k n) (hx : p.tables.exec = Jvm.exec) (hZ : Z.Warmed39 s.vm) {a : Addr} {vs : List Value} (A : own_A Z h a .long vs) {j : Int32} {i : Nat} (hj : ¬ j < 0) (hi : j.toNatClampNeg = i) (hl : i < vs.length) {v : Value} (hv : vs[i]? = some v) {g : JFrame} (hg : g.method = m) {rest : List Value} (hs : g.stack = .int j :: .ref a :: rest) (hd : decode c.code g.pc = .ok (.laload, 1))
    (K : own_Ends p.tables e below P (T.setTop { g with pc := g.pc + 1, stack := v :: rest })) : own_Ends p.tables e below P (T.setTop g) := by
  obtain ⟨locs, X, e1, N⟩ := Y
  obtain ⟨cl, A, q, r⟩ := A
  exact own_st (fun t => X.laload hx (by rw [e1]; exact A.1) (State.isArrayOf_alike hZ.alike A.2.1) A.2.2 (own_in q hj hi hl) (own_get q hi hv) hg hs hd t) K
/-! constants -/
theorem own_ldcI (Y : own_S p l e R s m args below meth c n0 T h k n) (hx : p.tables.exec = Jvm.exec) (hZ : Z.Warmed39 s.vm) {own : String} {index : Nat} {v : Int32} (hown : s.vm.findClass own = some m.cls) (w : (Jvm.Cond.constant own index v).before a0 Z = true) {g : JFrame} (hg : g.method = m) (hd : decode c.code g.pc = .ok (.ldc index, 2))
    (K : own_Ends p.tables e below P (T.setTop { g with pc := g.pc + 2, stack := .int v :: g.stack })) : own_Ends p.tables e below P (T.setTop g) := by
  obtain ⟨locs, X, e1, N⟩ := Y
  exact own_st (X.ldcInt hx hown (mvT hZ w) hg hd) K
theorem own_ldcJ (Y : own_S p l e R s m args below meth c n0 T h k n) (hx : p.tables.exec = Jvm.exec) (hZ : Z.Warmed39 s.vm) {own : String} {index : Nat} {v : Int64} (hown : s.vm.findClass own = some m.cls) (w : (Jvm.Cond.constantLong own index v).before a0 Z = true) {g : JFrame} (hg : g.method = m) (hd : decode c.code g.pc = .ok (.ldc2_w index, 3))
    (K : own_Ends p.tables e below P (T.setTop { g with pc := g.pc + 3, stack := .long v :: g.stack })) : own_Ends p.tables e below P (T.setTop g) := by
  obtain ⟨locs, X, e1, N⟩ := Y
  exact own_st (X.ldc2Long hx hown (mvT hZ w) hg hd) K
theorem own_irem (Y : own_S p l e R s m args below meth c n0 T h k n) (hx : p.tables.exec = Jvm.exec) {g : JFrame} (hg : g.method = m) {x y : Int32} {rest : List Value} (hd : decode c.code g.pc = .ok (.irem, 1)) (hs : g.stack = .int y :: .int x :: rest) (hy : y ≠ 0)
    (K : own_Ends p.tables e below P (T.setTop { g with pc := g.pc + 1, stack := .int (x % y) :: rest })) : own_Ends p.tables e below P (T.setTop g) := by
  obtain ⟨locs, X, e1, N⟩ := Y
  exact own_st (fun t => iremM X hx hg hd hs hy) K
/-! calls by contract -/
theorem own_callS (Y : own_S p l e R s m args below meth c n0 T h k n) (hx : p.tables.exec = Jvm.exec) (hZ : Z.Warmed39 s.vm) {own : String} {index : Nat} {y : MethodName} {bytes : ByteArray} {maxL : Nat} {ret : Option FieldType} (hown : s.vm.findClass own = some m.cls) (wl : (Jvm.Cond.methodLink own index y).before a0 Z = true) (wst : (Jvm.Cond.static y).before a0 Z = true) (wi : (Jvm.Cond.initialized y.cls).before a0 Z = true) (wc : (Jvm.Cond.code y bytes maxL ret).before a0 Z = true)
    (hy : y.cls ≠ "java/lang/invoke/MethodHandle" ∧ y.cls ≠ "java/lang/invoke/VarHandle") {rm : Room} {argsL rest : List Value} {Qf : Option Value → Heap → Prop} (hM : own_Con l Z y bytes maxL ret [] rm argsL.toArray h n0 Qf) {W : Nat} (hfr : rm.frames + 1 ≤ R.frames) (hlo : W + (maxL + 11) + rm.locals ≤ R.locals) (hc : k + rm.cells ≤ R.cells) (hsl : n + rm.slots ≤ R.slots)
    {g : JFrame} (hg : g.method = m) (hsize : g.locals.size = c.maxLocals) (hlen : ∀ sig, parseMethodDescriptor y.desc = some sig → argsL.length = sig.parameters.length) (hs : g.stack = argsL.reverse ++ rest) (hW : 2 * g.monitorRoom + (rest.map fun v => v.category).sum ≤ W) (hd : decode c.code g.pc = .ok (.invokestatic index, 3))
    (K : ∀ T' h' v, own_S p l e R s m args below meth c n0 T' h' (k + rm.cells) (n + rm.slots) → Qf v h' → own_Ends p.tables e below P (T'.setTop { g with pc := g.pc + 3, stack := v.toList ++ rest })) : own_Ends p.tables e below P (T.setTop g) := by
  obtain ⟨locs, X, e1, N⟩ := Y
  obtain ⟨v, vm1, ⟨T', L', k', n'⟩, -, X', ⟨L, hQ, l1, y1, z1⟩, st⟩ := Jvm.LawKit.callS X hx hown (mvT hZ wl) (mvT hZ wst) (mvT hZ wi) (mvT hZ wc) hy (backOf (W := W) (Q := fun v h L => Fr n0 L ∧ Qf v h) hM hZ wc wi hfr hlo) hg hsize hlen hs hW hd (fun _ _ => ⟨rfl, e1, hc, hsl⟩)
  dsimp only [Pt.U, Pt.locs, Pt.cells, Pt.slots] at X' l1 y1 z1 st hQ
  subst l1 y1 z1
  exact own_st st (K T' _ v ⟨_, X', rfl, Fr.app N hQ.1⟩ hQ.2)
theorem own_callN (Y : own_S p l e R s m args below meth c n0 T h k n) (hx : p.tables.exec = Jvm.exec) (hZ : Z.Warmed39 s.vm) {own : String} {index : Nat} {y : MethodName} {bytes : ByteArray} {maxL : Nat} (hy1 : y.name = "<init>") (hown : s.vm.findClass own = some m.cls) (wl : (Jvm.Cond.methodLink own index y).before a0 Z = true) (win : (Jvm.Cond.instanceMethod y).before a0 Z = true) (wi : (Jvm.Cond.initialized y.cls).before a0 Z = true) (wc : (Jvm.Cond.code y bytes maxL none).before a0 Z = true)
    (hy : y.cls ≠ "java/lang/invoke/MethodHandle" ∧ y.cls ≠ "java/lang/invoke/VarHandle") {rm : Room} {a : Addr} {argsL rest : List Value} {Qf : Option Value → Heap → Prop} (hM : own_Con l Z y bytes maxL none [] rm (.ref a :: argsL).toArray h n0 Qf) {W : Nat} (hfr : rm.frames + 1 ≤ R.frames) (hlo : W + (maxL + 11) + rm.locals ≤ R.locals) (hc : k + rm.cells ≤ R.cells) (hsl : n + rm.slots ≤ R.slots)
    {g : JFrame} (hg : g.method = m) (hsize : g.locals.size = c.maxLocals) (hlen : ∀ sig, parseMethodDescriptor y.desc = some sig → argsL.length = sig.parameters.length) (hs : g.stack = argsL.reverse ++ .ref a :: rest) (hW : 2 * g.monitorRoom + (rest.map fun v => v.category).sum ≤ W) (hd : decode c.code g.pc = .ok (.invokespecial index, 3))
    (K : ∀ T' h' v, own_S p l e R s m args below meth c n0 T' h' (k + rm.cells) (n + rm.slots) → Qf v h' → own_Ends p.tables e below P (T'.setTop { g with pc := g.pc + 3, stack := v.toList ++ rest })) : own_Ends p.tables e below P (T.setTop g) := by
  obtain ⟨locs, X, e1, N⟩ := Y
  obtain ⟨v, vm1, ⟨T', L', k', n'⟩, -, X', ⟨L, hQ, l1, y1, z1⟩, st⟩ := X.specialBack hx hy1 hown (mvT hZ wl) (mvT hZ win) (mvT hZ wc) hy (backOf (W := W) (Q := fun v h L => Fr n0 L ∧ Qf v h) hM hZ wc wi hfr hlo) hg hsize (Steps.refl _) hlen hs hW hd (fun _ _ => ⟨rfl, e1, hc, hsl⟩)
  dsimp only [Pt.U, Pt.locs, Pt.cells, Pt.slots] at X' l1 y1 z1 st hQ
  subst l1 y1 z1
  exact own_st (fun t q => st.trans q) (K T' _ v ⟨_, X', rfl, Fr.app N hQ.1⟩ hQ.2)
theorem own_callV (Y : own_S p l e R s m args below meth c n0 T h k n) (hx : p.tables.exec = Jvm.exec) (hZ : Z.Warmed39 s.vm) {own C : String} {index : Nat} {y z : MethodName} {bytes : ByteArray} {maxL : Nat} {ret : Option FieldType} (hown : s.vm.findClass own = some m.cls) (wl : (Jvm.Cond.methodLink own index y).before a0 Z = true) (wd : (Jvm.Cond.declares y).before a0 Z = true) (hnf : NotFace s y) (wse : (Jvm.Cond.selects C y z).before a0 Z = true) (win : (Jvm.Cond.instanceMethod z).before a0 Z = true) (wi : (Jvm.Cond.initialized z.cls).before a0 Z = true) (wc : (Jvm.Cond.code z bytes maxL ret).before a0 Z = true)
    (hy : y.cls ≠ "java/lang/invoke/MethodHandle" ∧ y.cls ≠ "java/lang/invoke/VarHandle") {rm : Room} {a : Addr} (E : Exa Z h a C) {argsL rest : List Value} {Qf : Option Value → Heap → Prop} (hM : own_Con l Z z bytes maxL ret [] rm (.ref a :: argsL).toArray h n0 Qf) {W : Nat} (hfr : rm.frames + 1 ≤ R.frames) (hlo : W + (maxL + 11) + rm.locals ≤ R.locals) (hc : k + rm.cells ≤ R.cells) (hsl : n + rm.slots ≤ R.slots)
    {g : JFrame} (hg : g.method = m) (hsize : g.locals.size = c.maxLocals) (hlen : ∀ sig, parseMethodDescriptor y.desc = some sig → argsL.length = sig.parameters.length) (hs : g.stack = argsL.reverse ++ .ref a :: rest) (hW : 2 * g.monitorRoom + (rest.map fun v => v.category).sum ≤ W) (hd : decode c.code g.pc = .ok (.invokevirtual index, 3))
    (K : ∀ T' h' v, own_S p l e R s m args below meth c n0 T' h' (k + rm.cells) (n + rm.slots) → Qf v h' → own_Ends p.tables e below P (T'.setTop { g with pc := g.pc + 3, stack := v.toList ++ rest })) : own_Ends p.tables e below P (T.setTop g) := by
  obtain ⟨locs, X, e1, N⟩ := Y
  obtain ⟨cq, kq, qa, qb, qc⟩ := isOf hZ e1 E
  obtain ⟨v, vm1, ⟨T', L', k', n'⟩, -, X', ⟨L, hQ, l1, y1, z1⟩, st⟩ := X.virtualBack hx hown (mvT hZ wl) (mvT hZ wd) hnf (mvT hZ wse) (mvT hZ win) hy (backOf (W := W) (Q := fun v h L => Fr n0 L ∧ Qf v h) hM hZ wc wi hfr hlo) qa qc hg hsize (Steps.refl _) hlen hs hW hd (fun _ _ => ⟨rfl, e1, hc, hsl⟩)
  dsimp only [Pt.U, Pt.locs, Pt.cells, Pt.slots] at X' l1 y1 z1 st hQ
  subst l1 y1 z1
  exact own_st (fun t q => st.trans q) (K T' _ v ⟨_, X', rfl, Fr.app N hQ.1⟩ hQ.2)
theorem own_callU (Y : own_S p l e R s m args below meth c n0 T h k n) (hx : p.tables.exec = Jvm.exec) (hZ : Z.Warmed39 s.vm) {own C owner : String} {index : Nat} {y z : MethodName} {bytes : ByteArray} {maxL : Nat} {ret : Option FieldType} (hown : s.vm.findClass own = some m.cls) (wl : (Jvm.Cond.methodLink own index y).before a0 Z = true) (wsm : (Jvm.Cond.sameMethod y.cls owner y.name y.desc).before a0 Z = true) (wd : (Jvm.Cond.declares ⟨owner, y.name, y.desc⟩).before a0 Z = true) (wse : (Jvm.Cond.selects C y z).before a0 Z = true) (win : (Jvm.Cond.instanceMethod z).before a0 Z = true) (wi : (Jvm.Cond.initialized z.cls).before a0 Z = true) (wc : (Jvm.Cond.code z bytes maxL ret).before a0 Z = true)
    (hy : owner ≠ "java/lang/invoke/MethodHandle" ∧ owner ≠ "java/lang/invoke/VarHandle") {rm : Room} {a : Addr} (E : Exa Z h a C) {argsL rest : List Value} {Qf : Option Value → Heap → Prop} (hM : own_Con l Z z bytes maxL ret [] rm (.ref a :: argsL).toArray h n0 Qf) {W : Nat} (hfr : rm.frames + 1 ≤ R.frames) (hlo : W + (maxL + 11) + rm.locals ≤ R.locals) (hc : k + rm.cells ≤ R.cells) (hsl : n + rm.slots ≤ R.slots)
    {g : JFrame} (hg : g.method = m) (hsize : g.locals.size = c.maxLocals) (hlen : ∀ sig, parseMethodDescriptor y.desc = some sig → argsL.length = sig.parameters.length) (hs : g.stack = argsL.reverse ++ .ref a :: rest) (hW : 2 * g.monitorRoom + (rest.map fun v => v.category).sum ≤ W) (hd : decode c.code g.pc = .ok (.invokevirtual index, 3))
    (K : ∀ T' h' v, own_S p l e R s m args below meth c n0 T' h' (k + rm.cells) (n + rm.slots) → Qf v h' → own_Ends p.tables e below P (T'.setTop { g with pc := g.pc + 3, stack := v.toList ++ rest })) : own_Ends p.tables e below P (T.setTop g) := by
  obtain ⟨locs, X, e1, N⟩ := Y
  obtain ⟨cq, kq, qa, qb, qc⟩ := isOf hZ e1 E
  obtain ⟨v, vm1, ⟨T', L', k', n'⟩, -, X', ⟨L, hQ, l1, y1, z1⟩, st⟩ := X.virtualBackUp hx hown (mvT hZ wl) (mvT hZ wsm) (mvT hZ wd) hy (mvT hZ wse) (mvT hZ win) (backOf (W := W) (Q := fun v h L => Fr n0 L ∧ Qf v h) hM hZ wc wi hfr hlo) qa qc hg hsize (Steps.refl _) hlen hs hW hd (fun _ _ => ⟨rfl, e1, hc, hsl⟩)
  dsimp only [Pt.U, Pt.locs, Pt.cells, Pt.slots] at X' l1 y1 z1 st hQ
  subst l1 y1 z1
  exact own_st (fun t q => st.trans q) (K T' _ v ⟨_, X', rfl, Fr.app N hQ.1⟩ hQ.2)
theorem own_callP (Y : own_S p l e R s m args below meth c n0 T h k n) (hx : p.tables.exec = Jvm.exec) (hZ : Z.Warmed39 s.vm) {own C : String} {index : Nat} {y : MethodName} {bytes : ByteArray} {maxL : Nat} {ret : Option FieldType} (hown : s.vm.findClass own = some m.cls) (wl : (Jvm.Cond.methodLink own index y).before a0 Z = true) {nn : Nat} (win : (Jvm.Cond.instanceMethod y).before a0 Z = true) (wn : (Jvm.Cond.instantiable y.cls nn).before a0 Z = true) (wp : (Jvm.Cond.privateMethod y).before a0 Z = true) (wi : (Jvm.Cond.initialized y.cls).before a0 Z = true) (wc : (Jvm.Cond.code y bytes maxL ret).before a0 Z = true)
    (hy : y.cls ≠ "java/lang/invoke/MethodHandle" ∧ y.cls ≠ "java/lang/invoke/VarHandle") {rm : Room} {a : Addr} (E : Exa Z h a C) {argsL rest : List Value} {Qf : Option Value → Heap → Prop} (hM : own_Con l Z y bytes maxL ret [] rm (.ref a :: argsL).toArray h n0 Qf) {W : Nat} (hfr : rm.frames + 1 ≤ R.frames) (hlo : W + (maxL + 11) + rm.locals ≤ R.locals) (hc : k + rm.cells ≤ R.cells) (hsl : n + rm.slots ≤ R.slots)
    {g : JFrame} (hg : g.method = m) (hsize : g.locals.size = c.maxLocals) (hlen : ∀ sig, parseMethodDescriptor y.desc = some sig → argsL.length = sig.parameters.length) (hs : g.stack = argsL.reverse ++ .ref a :: rest) (hW : 2 * g.monitorRoom + (rest.map fun v => v.category).sum ≤ W) (hd : decode c.code g.pc = .ok (.invokevirtual index, 3))
    (K : ∀ T' h' v, own_S p l e R s m args below meth c n0 T' h' (k + rm.cells) (n + rm.slots) → Qf v h' → own_Ends p.tables e below P (T'.setTop { g with pc := g.pc + 3, stack := v.toList ++ rest })) : own_Ends p.tables e below P (T.setTop g) := by
  obtain ⟨locs, X, e1, N⟩ := Y
  obtain ⟨cell, q, q'⟩ := E.cell
  have wn' : (Jvm.Cond.instantiable y.cls nn).before #[] s = true := mvT hZ wn
  obtain ⟨ci, ki, hi1, hi2, -, hi4, -⟩ := Cond.instantiable_spec wn'
  have wse : (Jvm.Cond.selects y.cls y y).before args s = true := selects_self_of_private hi1 hi2 (by simpa using (Bool.or_eq_false_iff.mp hi4).1) (Cond.privateMethod_at (mvP hZ wp (args := #[]))) (mvT hZ win) hy
  obtain ⟨v, vm1, ⟨T', L', k', n'⟩, -, X', ⟨L, hQ, l1, y1, z1⟩, st⟩ := X.privateBack hx hown (mvT hZ wl) (mvT hZ win) wse (Cond.privateMethod_at (mvP hZ wp (args := #[]))) (mvT hZ wc) hy (backOf (W := W) (Q := fun v h L => Fr n0 L ∧ Qf v h) hM hZ wc wi hfr hlo) hg hsize (Steps.refl _) (by rw [e1]; exact q) q' hlen hs hW hd (fun _ _ => ⟨rfl, e1, hc, hsl⟩)
  dsimp only [Pt.U, Pt.locs, Pt.cells, Pt.slots] at X' l1 y1 z1 st hQ
  subst l1 y1 z1
  exact own_st (fun t q => st.trans q) (K T' _ v ⟨_, X', rfl, Fr.app N hQ.1⟩ hQ.2)
end OwnLayer
section OwnNums
def own_b (b : Bool) : Int32 := if b then 1 else 0
theorem own_b_t {b : Bool} (h : b = true) : own_b b = 1 := by subst h; rfl
theorem own_b_f {b : Bool} (h : b = false) : own_b b = 0 := by subst h; rfl
theorem own_b_0 (b : Bool) : own_b b = 0 ↔ b = false := by cases b <;> simp [own_b]
theorem own_b_n (b : Bool) : nar .boolean (own_b b) = own_b b := by cases b <;> rfl
theorem own_b_inj {a b : Bool} : own_b a = own_b b ↔ a = b := by cases a <;> cases b <;> simp [own_b]
theorem own_idx {j : Int32} {n : Nat} (h0 : 0 ≤ j.toInt) (h1 : j.toInt < (n : Int)) : ¬ j < 0 ∧ j.toNatClampNeg < n := by
  refine ⟨?_, ?_⟩
  · rw [Int32.lt_iff_toInt_lt]; show ¬ j.toInt < 0; omega
  · show j.toInt.toNat < n; omega
theorem own_ints {xs : List Int32} {i : Nat} (h : i < xs.length) : ∃ d, (xs.map Value.int)[i]? = some (.int d) ∧ d = xs[i] := ⟨xs[i], by simp [h], rfl⟩
theorem own_longs {xs : List Int64} {i : Nat} (h : i < xs.length) : ∃ d, (xs.map Value.long)[i]? = some (.long d) ∧ d = xs[i] := ⟨xs[i], by simp [h], rfl⟩
/-- p i, p (i + 1), .., k of them, all hold -/
def own_all (p : Nat → Bool) : Nat → Nat → Bool
  | _, 0 => true
  | i, k + 1 => p i && own_all p (i + 1) k
def own_g (xs : List Int32) (i : Nat) : Int32 := xs.getD i 0
theorem own_mget {xs : List Int32} {i : Nat} (h : i < (xs.map Value.int).length) : (xs.map Value.int)[i]? = some (.int (own_g xs i)) := by
  have h' : i < xs.length := by simpa using h
  simp [h', own_g]
theorem own_mlen {xs : List Int32} {i : Nat} (h : i < xs.length) : i < (xs.map Value.int).length := by simpa using h
theorem own_nat {j : Int32} {i : Nat} (h : j.toInt = (i : Int)) : ¬ j < 0 ∧ j.toNatClampNeg = i := by
  refine ⟨?_, ?_⟩
  · rw [Int32.lt_iff_toInt_lt]; show ¬ j.toInt < 0; omega
  · show j.toInt.toNat = i; omega
theorem own_inc {j : Int32} {i : Nat} (h : j.toInt = (i : Int)) (hi : i + 1 < 2147483648) : (j + 1).toInt = ((i + 1 : Nat) : Int) := by
  have := c_iadd j 1
  have h1 : (1 : Int32).toInt = 1 := rfl
  have := rng32 (j + 1)
  omega
theorem own_lt {x y : Int32} : x < y ↔ x.toInt < y.toInt := Int32.lt_iff_toInt_lt
theorem own_eq {x y : Int32} : x = y ↔ x.toInt = y.toInt := Int32.toInt_inj.symm
theorem own_tolen {ys : List Int32} {z : Int32} (h : z.toInt = (ys.length : Int)) : (ys.map Value.int).length.toInt32 = z := by
  have q := rng32 z
  have e : (ys.map Value.int).length = ys.length := by simp
  rw [own_eq, len_toInt (by rw [e]; omega), e, h]
theorem own_add {x y : Int32} {a b : Nat} (h1 : x.toInt = (a : Int)) (h2 : y.toInt = (b : Int)) (hi : a + b < 2147483648) : (x + y).toInt = ((a + b : Nat) : Int) := by
  have := c_iadd x y
  have := rng32 (x + y)
  omega
theorem own_sub {x y : Int32} {a b : Nat} (h1 : x.toInt = (a : Int)) (h2 : y.toInt = (b : Int)) : (x - y).toInt = (a : Int) - (b : Int) := by
  have := c_isub x y
  have := rng32 (x - y)
  have := rng32 x
  have := rng32 y
  omega
theorem own_l1 : (1 : Int32).toInt = ((1 : Nat) : Int) := rfl
theorem own_l2 : (2 : Int32).toInt = ((2 : Nat) : Int) := rfl
theorem own_l3 : (3 : Int32).toInt = ((3 : Nat) : Int) := rfl
theorem own_l4 : (4 : Int32).toInt = ((4 : Nat) : Int) := rfl
theorem own_l5 : (5 : Int32).toInt = ((5 : Nat) : Int) := rfl
theorem own_l6 : (6 : Int32).toInt = ((6 : Nat) : Int) := rfl
theorem own_l7 : (7 : Int32).toInt = ((7 : Nat) : Int) := rfl
theorem own_l8 : (8 : Int32).toInt = ((8 : Nat) : Int) := rfl
end OwnNums
def own_E (p t : Int32) : Int64 := ((p.toInt64 <<< ((32 : Int32) &&& 0x3f).toInt64) ||| t.toInt64)
def own_pl (x : Int64) : Int32 := ((x.toUInt64 >>> ((32 : Int32) &&& 0x3f).toInt64.toUInt64).toInt64).toInt32
def own_cn (x : Int64) : Int64 := x &&& 4294967295
theorem own_tz {t : Int32} (h : 0 ≤ t.toInt) : t.toInt64.toBitVec.toNat = t.toInt.toNat ∧ t.toInt.toNat < 2 ^ 31 := by
  have h1 := c_i2l t
  have h2 := rng32 t
  have h3 : t.toInt64.toInt = t.toInt64.toBitVec.toInt := rfl
  have h4 := BitVec.toInt_eq_toNat_cond t.toInt64.toBitVec
  rw [h3] at h1
  have h5 := t.toInt64.toBitVec.isLt
  refine ⟨?_, by omega⟩
  split at h4 <;> omega
theorem own_Ez {p t : Int32} {q : Nat} (hp : (p.toInt64 <<< ((32 : Int32) &&& 0x3f).toInt64).toBitVec.toNat = 2 ^ 32 * q) (h : 0 ≤ t.toInt) : (own_E p t).toBitVec.toNat = 2 ^ 32 * q + t.toInt.toNat := by
  obtain ⟨h1, h2⟩ := own_tz h
  show ((p.toInt64 <<< ((32 : Int32) &&& 0x3f).toInt64).toBitVec ||| t.toInt64.toBitVec).toNat = _
  rw [BitVec.toNat_or, hp, h1, Nat.two_pow_add_eq_or_of_lt (by omega)]
theorem own_pl_z {x : Int64} {q r : Nat} (h : x.toBitVec.toNat = 2 ^ 32 * q + r) (hq : q < 2 ^ 31) (hr : r < 2 ^ 32) : (own_pl x).toInt = (q : Int) := by
  have e : (((x.toUInt64 >>> ((32 : Int32) &&& 0x3f).toInt64.toUInt64).toInt64)).toInt = (q : Int) := by
    rw [c_lushr x 32 32 (by decide) (by decide)]
    have h3 : x.toInt = x.toBitVec.toInt := rfl
    have h4 := BitVec.toInt_eq_toNat_cond x.toBitVec
    have h5 := x.toBitVec.isLt
    rw [h3]
    have p : ((2 ^ 32 : Nat) : Int) = 4294967296 := by decide
    rw [p]
    split at h4 <;> omega
  have c := c_l2i ((x.toUInt64 >>> ((32 : Int32) &&& 0x3f).toInt64.toUInt64).toInt64)
  have g := rng32 (own_pl x)
  unfold own_pl at *
  omega
theorem own_cn_z {x : Int64} {q r : Nat} (h : x.toBitVec.toNat = 2 ^ 32 * q + r) (hr : r < 2 ^ 32) : (own_cn x).toInt = (r : Int) := by
  have c := c_maskL x 4294967295 32 (by decide) (by decide)
  have h3 : x.toInt = x.toBitVec.toInt := rfl
  have h4 := BitVec.toInt_eq_toNat_cond x.toBitVec
  have h5 := x.toBitVec.isLt
  have p : ((2 ^ 32 : Nat) : Int) = 4294967296 := by decide
  rw [p] at c
  unfold own_cn
  rw [c, h3]
  split at h4 <;> omega
theorem own_s0 : ((0 : Int32).toInt64 <<< ((32 : Int32) &&& 0x3f).toInt64).toBitVec.toNat = 2 ^ 32 * 0 := by decide +kernel
theorem own_s1 : ((1 : Int32).toInt64 <<< ((32 : Int32) &&& 0x3f).toInt64).toBitVec.toNat = 2 ^ 32 * 1 := by decide +kernel
theorem own_s2 : ((2 : Int32).toInt64 <<< ((32 : Int32) &&& 0x3f).toInt64).toBitVec.toNat = 2 ^ 32 * 2 := by decide +kernel
theorem own_pl0 {t : Int32} (h : 0 ≤ t.toInt) : own_pl (own_E 0 t) = 0 := own_eq.mpr (own_pl_z (own_Ez own_s0 h) (by decide) (by have := own_tz h; omega))
theorem own_pl1 {t : Int32} (h : 0 ≤ t.toInt) : own_pl (own_E 1 t) = 1 := own_eq.mpr (own_pl_z (own_Ez own_s1 h) (by decide) (by have := own_tz h; omega))
theorem own_pl2 {t : Int32} (h : 0 ≤ t.toInt) : own_pl (own_E 2 t) = 2 := own_eq.mpr (own_pl_z (own_Ez own_s2 h) (by decide) (by have := own_tz h; omega))
theorem own_cnE {p t : Int32} {q : Nat} (hp : (p.toInt64 <<< ((32 : Int32) &&& 0x3f).toInt64).toBitVec.toNat = 2 ^ 32 * q) (h : 0 ≤ t.toInt) : own_cn (own_E p t) = t.toInt64 := by
  apply Int64.toInt_inj.mp
  rw [own_cn_z (own_Ez hp h) (by have := own_tz h; omega), c_i2l]
  omega
theorem own_jget {xs : List Int64} {i : Nat} (h : i < (xs.map Value.long).length) : (xs.map Value.long)[i]? = some (.long (xs.getD i 0)) := by
  have h' : i < xs.length := by simpa using h
  simp [h', List.getD]
theorem own_jlen {xs : List Int64} {i : Nat} (h : i < xs.length) : i < (xs.map Value.long).length := by simpa using h
theorem own_tolenJ {ys : List Int64} {z : Int32} (h : z.toInt = (ys.length : Int)) : (ys.map Value.long).length.toInt32 = z := by
  have q := rng32 z
  have e : (ys.map Value.long).length = ys.length := by simp
  rw [own_eq, len_toInt (by rw [e]; omega), e, h]
def own_es (a b c : Int32) : List Int64 := (if 0 < a then [own_E 0 a] else []) ++ ((if 0 < b then [own_E 1 b] else []) ++ (if 0 < c then [own_E 2 c] else []))
/-- the places are in order -/
def own_ord (es : List Int64) : Prop := ∀ i j : Nat, i < j → j < es.length → (own_pl (es.getD i 0)).toInt < (own_pl (es.getD j 0)).toInt
theorem own_pn0 : plainName "com/example/poset/poset/core/Marking" = true := by first | (simp [plainName, overriddenIn]; done) | decide +kernel
theorem own_d3_0 : decode prog_47_method_17_code 0 = .ok (.lload_n 0, 1) := by decide +kernel
theorem own_d3_1 : decode prog_47_method_17_code 1 = .ok (.ldc2_w 111, 3) := by decide +kernel
theorem own_d3_4 : decode prog_47_method_17_code 4 = .ok (.lmul, 1) := by decide +kernel
theorem own_d3_5 : decode prog_47_method_17_code 5 = .ok (.lload_n 2, 1) := by decide +kernel
theorem own_d3_6 : decode prog_47_method_17_code 6 = .ok (.ladd, 1) := by decide +kernel
theorem own_d3_7 : decode prog_47_method_17_code 7 = .ok (.ldc2_w 111, 3) := by decide +kernel
theorem own_d3_10 : decode prog_47_method_17_code 10 = .ok (.lmul, 1) := by decide +kernel
theorem own_d3_11 : decode prog_47_method_17_code 11 = .ok (.lstore 4, 2) := by decide +kernel
theorem own_d3_13 : decode prog_47_method_17_code 13 = .ok (.lload 4, 2) := by decide +kernel
theorem own_d3_15 : decode prog_47_method_17_code 15 = .ok (.lload 4, 2) := by decide +kernel
theorem own_d3_17 : decode prog_47_method_17_code 17 = .ok (.bipush 31, 2) := by decide +kernel
theorem own_d3_19 : decode prog_47_method_17_code 19 = .ok (.lushr, 1) := by decide +kernel
theorem own_d3_20 : decode prog_47_method_17_code 20 = .ok (.lxor, 1) := by decide +kernel
theorem own_d3_21 : decode prog_47_method_17_code 21 = .ok (.ldc2_w 111, 3) := by decide +kernel
theorem own_d3_24 : decode prog_47_method_17_code 24 = .ok (.lmul, 1) := by decide +kernel
theorem own_d3_25 : decode prog_47_method_17_code 25 = .ok (.lstore 4, 2) := by decide +kernel
theorem own_d3_27 : decode prog_47_method_17_code 27 = .ok (.lload 4, 2) := by decide +kernel
theorem own_d3_29 : decode prog_47_method_17_code 29 = .ok (.lload 4, 2) := by decide +kernel
theorem own_d3_31 : decode prog_47_method_17_code 31 = .ok (.bipush 29, 2) := by decide +kernel
theorem own_d3_33 : decode prog_47_method_17_code 33 = .ok (.lushr, 1) := by decide +kernel
theorem own_d3_34 : decode prog_47_method_17_code 34 = .ok (.lxor, 1) := by decide +kernel
theorem own_d3_35 : decode prog_47_method_17_code 35 = .ok (.lreturn, 1) := by decide +kernel
theorem own_ef_own_rm3 (m : MethodId) (x0 : Int64) (x1 : Int64) : entryFrame m #[(.long x0), (.long x1)] 6 = mkF m 0 #[.val (.long x0), .second, .val (.long x1), .second, .unset, .unset] [] := by first | (simp [entryFrame, mkF, argsToLocals, Value.category]; done) | rfl
def own_Q_own_rm3 (Z : State) (x0 : Int64) (x1 : Int64) (h0 : Heap) (n0 : Nat) (v : Option Value) (h : Heap) : Prop := ∃ r, v = some (.long r) ∧ h0 = h
set_option maxRecDepth 65536 in
set_option maxHeartbeats 40000000 in
theorem own_rm3 (l : Launch) (Z : State) (a0 : Array Value) (hw : ∀ d ∈ tables_1, d.before a0 Z = true) (ws : List Jvm.Cond) (x0 : Int64) (x1 : Int64)  (h0 : Heap) (n0 : Nat)   :
    own_Con l Z (⟨"com/example/poset/poset/core/Marking", "mix", "(JJ)J"⟩ : MethodName) prog_47_method_17_code 6 (some .long) ws ({ frames := 0, cells := 0, slots := 0, locals := 0 } : Room) #[(.long x0), (.long x1)] h0 n0 (own_Q_own_rm3 Z x0 x1 h0 n0) := by
  refine own_body (plainFor_of_name own_pn0) ?_
  intro p e s m below meth c T0 hx hZ hby hml hown hnm hret hlk Y0
  replace hown : s.vm.findClass "com/example/poset/poset/core/Marking" = some m.cls := hown
  replace hnm : meth.name = "mix" := hnm
  rw [own_ef_own_rm3 m x0 x1]
  show own_Ends _ _ _ _ (T0.setTop (mkF m 0 #[.val (.long x0), .second, .val (.long x1), .second, .unset, .unset] []))
  refine own_st (fun t_ => XS.lloadN (own_here Y0) hx rfl (hb hby own_d3_0) rfl) ?_
  show own_Ends _ _ _ _ (T0.setTop (mkF m 1 #[.val (.long x0), .second, .val (.long x1), .second, .unset, .unset] [(.long x0)]))
  refine own_ldcJ Y0 hx hZ hown (hw _ (List.mem_of_getElem? (i := 13) rfl)) rfl (hb hby own_d3_1) ?_
  show own_Ends _ _ _ _ (T0.setTop (mkF m 4 #[.val (.long x0), .second, .val (.long x1), .second, .unset, .unset] [(.long (-7046029254386353131 : Int64)), (.long x0)]))
  refine own_st (fun t_ => XS.lmul (own_here Y0) hx rfl (hb hby own_d3_4) rfl) ?_
  show own_Ends _ _ _ _ (T0.setTop (mkF m 5 #[.val (.long x0), .second, .val (.long x1), .second, .unset, .unset] [(.long (x0 * (-7046029254386353131 : Int64)))]))
  refine own_st (fun t_ => XS.lloadN (own_here Y0) hx rfl (hb hby own_d3_5) rfl) ?_
  show own_Ends _ _ _ _ (T0.setTop (mkF m 6 #[.val (.long x0), .second, .val (.long x1), .second, .unset, .unset] [(.long x1), (.long (x0 * (-7046029254386353131 : Int64)))]))
  refine own_st (fun t_ => XS.ladd (own_here Y0) hx rfl (hb hby own_d3_6) rfl) ?_
  show own_Ends _ _ _ _ (T0.setTop (mkF m 7 #[.val (.long x0), .second, .val (.long x1), .second, .unset, .unset] [(.long ((x0 * (-7046029254386353131 : Int64)) + x1))]))
  refine own_ldcJ Y0 hx hZ hown (hw _ (List.mem_of_getElem? (i := 13) rfl)) rfl (hb hby own_d3_7) ?_
  show own_Ends _ _ _ _ (T0.setTop (mkF m 10 #[.val (.long x0), .second, .val (.long x1), .second, .unset, .unset] [(.long (-7046029254386353131 : Int64)), (.long ((x0 * (-7046029254386353131 : Int64)) + x1))]))
  refine own_st (fun t_ => XS.lmul (own_here Y0) hx rfl (hb hby own_d3_10) rfl) ?_
  show own_Ends _ _ _ _ (T0.setTop (mkF m 11 #[.val (.long x0), .second, .val (.long x1), .second, .unset, .unset] [(.long (((x0 * (-7046029254386353131 : Int64)) + x1) * (-7046029254386353131 : Int64)))]))
  refine own_st (fun t_ => XS.lstore (own_here Y0) hx rfl (hb hby own_d3_11) rfl (l' := #[.val (.long x0), .second, .val (.long x1), .second, .val (.long (((x0 * (-7046029254386353131 : Int64)) + x1) * (-7046029254386353131 : Int64))), .second]) rfl) ?_
  show own_Ends _ _ _ _ (T0.setTop (mkF m 13 #[.val (.long x0), .second, .val (.long x1), .second, .val (.long (((x0 * (-7046029254386353131 : Int64)) + x1) * (-7046029254386353131 : Int64))), .second] []))
  refine own_st (fun t_ => XS.lload (own_here Y0) hx rfl (hb hby own_d3_13) rfl) ?_
  show own_Ends _ _ _ _ (T0.setTop (mkF m 15 #[.val (.long x0), .second, .val (.long x1), .second, .val (.long (((x0 * (-7046029254386353131 : Int64)) + x1) * (-7046029254386353131 : Int64))), .second] [(.long (((x0 * (-7046029254386353131 : Int64)) + x1) * (-7046029254386353131 : Int64)))]))
  refine own_st (fun t_ => XS.lload (own_here Y0) hx rfl (hb hby own_d3_15) rfl) ?_
  show own_Ends _ _ _ _ (T0.setTop (mkF m 17 #[.val (.long x0), .second, .val (.long x1), .second, .val (.long (((x0 * (-7046029254386353131 : Int64)) + x1) * (-7046029254386353131 : Int64))), .second] [(.long (((x0 * (-7046029254386353131 : Int64)) + x1) * (-7046029254386353131 : Int64))), (.long (((x0 * (-7046029254386353131 : Int64)) + x1) * (-7046029254386353131 : Int64)))]))
  refine own_st (fun t_ => XS.bipush (own_here Y0) hx rfl (hb hby own_d3_17) ) ?_
  show own_Ends _ _ _ _ (T0.setTop (mkF m 19 #[.val (.long x0), .second, .val (.long x1), .second, .val (.long (((x0 * (-7046029254386353131 : Int64)) + x1) * (-7046029254386353131 : Int64))), .second] [(.int (31 : Int32)), (.long (((x0 * (-7046029254386353131 : Int64)) + x1) * (-7046029254386353131 : Int64))), (.long (((x0 * (-7046029254386353131 : Int64)) + x1) * (-7046029254386353131 : Int64)))]))
  refine own_st (fun t_ => XS.lushr (own_here Y0) hx rfl (hb hby own_d3_19) rfl) ?_
  show own_Ends _ _ _ _ (T0.setTop (mkF m 20 #[.val (.long x0), .second, .val (.long x1), .second, .val (.long (((x0 * (-7046029254386353131 : Int64)) + x1) * (-7046029254386353131 : Int64))), .second] [(.long (((((x0 * (-7046029254386353131 : Int64)) + x1) * (-7046029254386353131 : Int64)).toUInt64 >>> ((31 : Int32) &&& 0x3f).toInt64.toUInt64).toInt64)), (.long (((x0 * (-7046029254386353131 : Int64)) + x1) * (-7046029254386353131 : Int64)))]))
  refine own_st (fun t_ => XS.lxor (own_here Y0) hx rfl (hb hby own_d3_20) rfl) ?_
  show own_Ends _ _ _ _ (T0.setTop (mkF m 21 #[.val (.long x0), .second, .val (.long x1), .second, .val (.long (((x0 * (-7046029254386353131 : Int64)) + x1) * (-7046029254386353131 : Int64))), .second] [(.long ((((x0 * (-7046029254386353131 : Int64)) + x1) * (-7046029254386353131 : Int64)) ^^^ (((((x0 * (-7046029254386353131 : Int64)) + x1) * (-7046029254386353131 : Int64)).toUInt64 >>> ((31 : Int32) &&& 0x3f).toInt64.toUInt64).toInt64)))]))
  refine own_ldcJ Y0 hx hZ hown (hw _ (List.mem_of_getElem? (i := 13) rfl)) rfl (hb hby own_d3_21) ?_
  show own_Ends _ _ _ _ (T0.setTop (mkF m 24 #[.val (.long x0), .second, .val (.long x1), .second, .val (.long (((x0 * (-7046029254386353131 : Int64)) + x1) * (-7046029254386353131 : Int64))), .second] [(.long (-7046029254386353131 : Int64)), (.long ((((x0 * (-7046029254386353131 : Int64)) + x1) * (-7046029254386353131 : Int64)) ^^^ (((((x0 * (-7046029254386353131 : Int64)) + x1) * (-7046029254386353131 : Int64)).toUInt64 >>> ((31 : Int32) &&& 0x3f).toInt64.toUInt64).toInt64)))]))
  refine own_st (fun t_ => XS.lmul (own_here Y0) hx rfl (hb hby own_d3_24) rfl) ?_
  show own_Ends _ _ _ _ (T0.setTop (mkF m 25 #[.val (.long x0), .second, .val (.long x1), .second, .val (.long (((x0 * (-7046029254386353131 : Int64)) + x1) * (-7046029254386353131 : Int64))), .second] [(.long (((((x0 * (-7046029254386353131 : Int64)) + x1) * (-7046029254386353131 : Int64)) ^^^ (((((x0 * (-7046029254386353131 : Int64)) + x1) * (-7046029254386353131 : Int64)).toUInt64 >>> ((31 : Int32) &&& 0x3f).toInt64.toUInt64).toInt64)) * (-7046029254386353131 : Int64)))]))
  refine own_st (fun t_ => XS.lstore (own_here Y0) hx rfl (hb hby own_d3_25) rfl (l' := #[.val (.long x0), .second, .val (.long x1), .second, .val (.long (((((x0 * (-7046029254386353131 : Int64)) + x1) * (-7046029254386353131 : Int64)) ^^^ (((((x0 * (-7046029254386353131 : Int64)) + x1) * (-7046029254386353131 : Int64)).toUInt64 >>> ((31 : Int32) &&& 0x3f).toInt64.toUInt64).toInt64)) * (-7046029254386353131 : Int64))), .second]) rfl) ?_
  show own_Ends _ _ _ _ (T0.setTop (mkF m 27 #[.val (.long x0), .second, .val (.long x1), .second, .val (.long (((((x0 * (-7046029254386353131 : Int64)) + x1) * (-7046029254386353131 : Int64)) ^^^ (((((x0 * (-7046029254386353131 : Int64)) + x1) * (-7046029254386353131 : Int64)).toUInt64 >>> ((31 : Int32) &&& 0x3f).toInt64.toUInt64).toInt64)) * (-7046029254386353131 : Int64))), .second] []))
  refine own_st (fun t_ => XS.lload (own_here Y0) hx rfl (hb hby own_d3_27) rfl) ?_
  show own_Ends _ _ _ _ (T0.setTop (mkF m 29 #[.val (.long x0), .second, .val (.long x1), .second, .val (.long (((((x0 * (-7046029254386353131 : Int64)) + x1) * (-7046029254386353131 : Int64)) ^^^ (((((x0 * (-7046029254386353131 : Int64)) + x1) * (-7046029254386353131 : Int64)).toUInt64 >>> ((31 : Int32) &&& 0x3f).toInt64.toUInt64).toInt64)) * (-7046029254386353131 : Int64))), .second] [(.long (((((x0 * (-7046029254386353131 : Int64)) + x1) * (-7046029254386353131 : Int64)) ^^^ (((((x0 * (-7046029254386353131 : Int64)) + x1) * (-7046029254386353131 : Int64)).toUInt64 >>> ((31 : Int32) &&& 0x3f).toInt64.toUInt64).toInt64)) * (-7046029254386353131 : Int64)))]))
  refine own_st (fun t_ => XS.lload (own_here Y0) hx rfl (hb hby own_d3_29) rfl) ?_
  show own_Ends _ _ _ _ (T0.setTop (mkF m 31 #[.val (.long x0), .second, .val (.long x1), .second, .val (.long (((((x0 * (-7046029254386353131 : Int64)) + x1) * (-7046029254386353131 : Int64)) ^^^ (((((x0 * (-7046029254386353131 : Int64)) + x1) * (-7046029254386353131 : Int64)).toUInt64 >>> ((31 : Int32) &&& 0x3f).toInt64.toUInt64).toInt64)) * (-7046029254386353131 : Int64))), .second] [(.long (((((x0 * (-7046029254386353131 : Int64)) + x1) * (-7046029254386353131 : Int64)) ^^^ (((((x0 * (-7046029254386353131 : Int64)) + x1) * (-7046029254386353131 : Int64)).toUInt64 >>> ((31 : Int32) &&& 0x3f).toInt64.toUInt64).toInt64)) * (-7046029254386353131 : Int64))), (.long (((((x0 * (-7046029254386353131 : Int64)) + x1) * (-7046029254386353131 : Int64)) ^^^ (((((x0 * (-7046029254386353131 : Int64)) + x1) * (-7046029254386353131 : Int64)).toUInt64 >>> ((31 : Int32) &&& 0x3f).toInt64.toUInt64).toInt64)) * (-7046029254386353131 : Int64)))]))
  refine own_st (fun t_ => XS.bipush (own_here Y0) hx rfl (hb hby own_d3_31) ) ?_
  show own_Ends _ _ _ _ (T0.setTop (mkF m 33 #[.val (.long x0), .second, .val (.long x1), .second, .val (.long (((((x0 * (-7046029254386353131 : Int64)) + x1) * (-7046029254386353131 : Int64)) ^^^ (((((x0 * (-7046029254386353131 : Int64)) + x1) * (-7046029254386353131 : Int64)).toUInt64 >>> ((31 : Int32) &&& 0x3f).toInt64.toUInt64).toInt64)) * (-7046029254386353131 : Int64))), .second] [(.int (29 : Int32)), (.long (((((x0 * (-7046029254386353131 : Int64)) + x1) * (-7046029254386353131 : Int64)) ^^^ (((((x0 * (-7046029254386353131 : Int64)) + x1) * (-7046029254386353131 : Int64)).toUInt64 >>> ((31 : Int32) &&& 0x3f).toInt64.toUInt64).toInt64)) * (-7046029254386353131 : Int64))), (.long (((((x0 * (-7046029254386353131 : Int64)) + x1) * (-7046029254386353131 : Int64)) ^^^ (((((x0 * (-7046029254386353131 : Int64)) + x1) * (-7046029254386353131 : Int64)).toUInt64 >>> ((31 : Int32) &&& 0x3f).toInt64.toUInt64).toInt64)) * (-7046029254386353131 : Int64)))]))
  refine own_st (fun t_ => XS.lushr (own_here Y0) hx rfl (hb hby own_d3_33) rfl) ?_
  show own_Ends _ _ _ _ (T0.setTop (mkF m 34 #[.val (.long x0), .second, .val (.long x1), .second, .val (.long (((((x0 * (-7046029254386353131 : Int64)) + x1) * (-7046029254386353131 : Int64)) ^^^ (((((x0 * (-7046029254386353131 : Int64)) + x1) * (-7046029254386353131 : Int64)).toUInt64 >>> ((31 : Int32) &&& 0x3f).toInt64.toUInt64).toInt64)) * (-7046029254386353131 : Int64))), .second] [(.long (((((((x0 * (-7046029254386353131 : Int64)) + x1) * (-7046029254386353131 : Int64)) ^^^ (((((x0 * (-7046029254386353131 : Int64)) + x1) * (-7046029254386353131 : Int64)).toUInt64 >>> ((31 : Int32) &&& 0x3f).toInt64.toUInt64).toInt64)) * (-7046029254386353131 : Int64)).toUInt64 >>> ((29 : Int32) &&& 0x3f).toInt64.toUInt64).toInt64)), (.long (((((x0 * (-7046029254386353131 : Int64)) + x1) * (-7046029254386353131 : Int64)) ^^^ (((((x0 * (-7046029254386353131 : Int64)) + x1) * (-7046029254386353131 : Int64)).toUInt64 >>> ((31 : Int32) &&& 0x3f).toInt64.toUInt64).toInt64)) * (-7046029254386353131 : Int64)))]))
  refine own_st (fun t_ => XS.lxor (own_here Y0) hx rfl (hb hby own_d3_34) rfl) ?_
  show own_Ends _ _ _ _ (T0.setTop (mkF m 35 #[.val (.long x0), .second, .val (.long x1), .second, .val (.long (((((x0 * (-7046029254386353131 : Int64)) + x1) * (-7046029254386353131 : Int64)) ^^^ (((((x0 * (-7046029254386353131 : Int64)) + x1) * (-7046029254386353131 : Int64)).toUInt64 >>> ((31 : Int32) &&& 0x3f).toInt64.toUInt64).toInt64)) * (-7046029254386353131 : Int64))), .second] [(.long ((((((x0 * (-7046029254386353131 : Int64)) + x1) * (-7046029254386353131 : Int64)) ^^^ (((((x0 * (-7046029254386353131 : Int64)) + x1) * (-7046029254386353131 : Int64)).toUInt64 >>> ((31 : Int32) &&& 0x3f).toInt64.toUInt64).toInt64)) * (-7046029254386353131 : Int64)) ^^^ (((((((x0 * (-7046029254386353131 : Int64)) + x1) * (-7046029254386353131 : Int64)) ^^^ (((((x0 * (-7046029254386353131 : Int64)) + x1) * (-7046029254386353131 : Int64)).toUInt64 >>> ((31 : Int32) &&& 0x3f).toInt64.toUInt64).toInt64)) * (-7046029254386353131 : Int64)).toUInt64 >>> ((29 : Int32) &&& 0x3f).toInt64.toUInt64).toInt64)))]))
  refine own_retJ Y0 hx hlk hret (hb hby own_d3_35) (by decide) (by decide) ?_
  exact ⟨_, rfl, rfl⟩
theorem own_d6_0 : decode prog_47_method_4_code 0 = .ok (.aload_n 0, 1) := by decide +kernel
theorem own_d6_1 : decode prog_47_method_4_code 1 = .ok (.getfield 7, 3) := by decide +kernel
theorem own_d6_4 : decode prog_47_method_4_code 4 = .ok (.ireturn, 1) := by decide +kernel
theorem own_ef_own_rm6 (m : MethodId) (r0 : Addr) : entryFrame m #[(.ref r0)] 1 = mkF m 0 #[.val (.ref r0)] [] := by first | (simp [entryFrame, mkF, argsToLocals, Value.category]; done) | rfl
def own_Q_own_rm6 (Z : State)  (es : List Int64) (ml : Int32) (h0 : Heap) (n0 : Nat) (v : Option Value) (h : Heap) : Prop := v = some (.int 3) ∧ h0 = h
set_option maxRecDepth 65536 in
set_option maxHeartbeats 40000000 in
theorem own_rm6 (l : Launch) (Z : State) (a0 : Array Value) (hw : ∀ d ∈ tables_1, d.before a0 Z = true) (ws : List Jvm.Cond) (r0 : Addr) (ra : Addr) (es : List Int64) (ml : Int32) (h0 : Heap) (n0 : Nat)  (E : Exa Z h0 r0 "com/example/poset/poset/core/Marking") (FS : Fld Z h0 r0 "com/example/poset/poset/core/Marking" "size" "I" (.int 3)) (FE : Fld Z h0 r0 "com/example/poset/poset/core/Marking" "entries" "[J" (.ref ra)) (FW : Fld Z h0 r0 "com/example/poset/poset/core/Marking" "wide" "Z" (.int 0)) (A : own_A Z h0 ra .long (es.map Value.long)) (hml_ : ml.toInt = (es.length : Int)) (hm3 : es.length ≤ 3)  :
    own_Con l Z (⟨"com/example/poset/poset/core/Marking", "size", "()I"⟩ : MethodName) prog_47_method_4_code 1 (some .int) ws ({ frames := 0, cells := 0, slots := 0, locals := 0 } : Room) #[(.ref r0)] h0 n0 (own_Q_own_rm6 Z  es ml  h0 n0) := by
  refine own_body (plainFor_of_name own_pn0) ?_
  intro p e s m below meth c T0 hx hZ hby hml hown hnm hret hlk Y0
  replace hown : s.vm.findClass "com/example/poset/poset/core/Marking" = some m.cls := hown
  replace hnm : meth.name = "size" := hnm
  rw [own_ef_own_rm6 m r0]
  show own_Ends _ _ _ _ (T0.setTop (mkF m 0 #[.val (.ref r0)] []))
  refine own_st (fun t_ => XS.aloadN (own_here Y0) hx rfl (hb hby own_d6_0) rfl rfl) ?_
  show own_Ends _ _ _ _ (T0.setTop (mkF m 1 #[.val (.ref r0)] [(.ref r0)]))
  refine own_getF Y0 hx hZ hown (host := "") (Or.inl (hw _ (List.mem_of_getElem? (i := 22) rfl))) Via.refl FS rfl rfl (hb hby own_d6_1) (fun T1 Y2 => ?_)
  show own_Ends _ _ _ _ (T1.setTop (mkF m 4 #[.val (.ref r0)] [(.int (3 : Int32))]))
  refine own_retI Y2 hx hlk hret (hb hby own_d6_4) (by decide) (by decide) ?_
  exact ⟨rfl, rfl⟩
theorem own_d7_0 : decode prog_47_method_6_code 0 = .ok (.aload_n 0, 1) := by decide +kernel
theorem own_d7_1 : decode prog_47_method_6_code 1 = .ok (.getfield 17, 3) := by decide +kernel
theorem own_d7_4 : decode prog_47_method_6_code 4 = .ok (.ifCond .eq 13, 3) := by decide +kernel
theorem own_d7_17 : decode prog_47_method_6_code 17 = .ok (.aload_n 0, 1) := by decide +kernel
theorem own_d7_18 : decode prog_47_method_6_code 18 = .ok (.getfield 13, 3) := by decide +kernel
theorem own_d7_21 : decode prog_47_method_6_code 21 = .ok (.arraylength, 1) := by decide +kernel
theorem own_d7_22 : decode prog_47_method_6_code 22 = .ok (.ireturn, 1) := by decide +kernel
theorem own_ef_own_rm7 (m : MethodId) (r0 : Addr) : entryFrame m #[(.ref r0)] 1 = mkF m 0 #[.val (.ref r0)] [] := by first | (simp [entryFrame, mkF, argsToLocals, Value.category]; done) | rfl
def own_Q_own_rm7 (Z : State)  (es : List Int64) (ml : Int32) (h0 : Heap) (n0 : Nat) (v : Option Value) (h : Heap) : Prop := v = some (.int ml) ∧ h0 = h
set_option maxRecDepth 65536 in
set_option maxHeartbeats 40000000 in
theorem own_rm7 (l : Launch) (Z : State) (a0 : Array Value) (hw : ∀ d ∈ tables_1, d.before a0 Z = true) (ws : List Jvm.Cond) (r0 : Addr) (ra : Addr) (es : List Int64) (ml : Int32) (h0 : Heap) (n0 : Nat)  (E : Exa Z h0 r0 "com/example/poset/poset/core/Marking") (FS : Fld Z h0 r0 "com/example/poset/poset/core/Marking" "size" "I" (.int 3)) (FE : Fld Z h0 r0 "com/example/poset/poset/core/Marking" "entries" "[J" (.ref ra)) (FW : Fld Z h0 r0 "com/example/poset/poset/core/Marking" "wide" "Z" (.int 0)) (A : own_A Z h0 ra .long (es.map Value.long)) (hml_ : ml.toInt = (es.length : Int)) (hm3 : es.length ≤ 3)  :
    own_Con l Z (⟨"com/example/poset/poset/core/Marking", "markedCount", "()I"⟩ : MethodName) prog_47_method_6_code 1 (some .int) ws ({ frames := 0, cells := 0, slots := 0, locals := 0 } : Room) #[(.ref r0)] h0 n0 (own_Q_own_rm7 Z  es ml  h0 n0) := by
  refine own_body (plainFor_of_name own_pn0) ?_
  intro p e s m below meth c T0 hx hZ hby hml hown hnm hret hlk Y0
  replace hown : s.vm.findClass "com/example/poset/poset/core/Marking" = some m.cls := hown
  replace hnm : meth.name = "markedCount" := hnm
  rw [own_ef_own_rm7 m r0]
  show own_Ends _ _ _ _ (T0.setTop (mkF m 0 #[.val (.ref r0)] []))
  refine own_st (fun t_ => XS.aloadN (own_here Y0) hx rfl (hb hby own_d7_0) rfl rfl) ?_
  show own_Ends _ _ _ _ (T0.setTop (mkF m 1 #[.val (.ref r0)] [(.ref r0)]))
  refine own_getF Y0 hx hZ hown (host := "") (Or.inl (hw _ (List.mem_of_getElem? (i := 26) rfl))) Via.refl FW rfl rfl (hb hby own_d7_1) (fun T3 Y4 => ?_)
  show own_Ends _ _ _ _ (T3.setTop (mkF m 4 #[.val (.ref r0)] [(.int (0 : Int32))]))
  refine own_st (fun t_ => XS.ifYes (own_here Y4) hx rfl (pc0 := 4) (pc' := 17) rfl (hb hby own_d7_4) rfl (XT.i0_eq_t (by decide)) (by decide) (by decide)) ?_
  show own_Ends _ _ _ _ (T3.setTop (mkF m 17 #[.val (.ref r0)] []))
  refine own_st (fun t_ => XS.aloadN (own_here Y4) hx rfl (hb hby own_d7_17) rfl rfl) ?_
  show own_Ends _ _ _ _ (T3.setTop (mkF m 18 #[.val (.ref r0)] [(.ref r0)]))
  refine own_getF Y4 hx hZ hown (host := "") (Or.inl (hw _ (List.mem_of_getElem? (i := 24) rfl))) Via.refl FE rfl rfl (hb hby own_d7_18) (fun T5 Y6 => ?_)
  show own_Ends _ _ _ _ (T5.setTop (mkF m 21 #[.val (.ref r0)] [(.ref ra)]))
  refine own_len Y6 hx hZ A (z := ml) (own_tolenJ hml_) rfl rfl (hb hby own_d7_21) ?_
  show own_Ends _ _ _ _ (T5.setTop (mkF m 22 #[.val (.ref r0)] [(.int ml)]))
  refine own_retI Y6 hx hlk hret (hb hby own_d7_22) (by decide) (by decide) ?_
  exact ⟨rfl, rfl⟩
theorem own_d12_0 : decode prog_47_method_11_code 0 = .ok (.aload_n 0, 1) := by decide +kernel
theorem own_d12_1 : decode prog_47_method_11_code 1 = .ok (.getfield 17, 3) := by decide +kernel
theorem own_d12_4 : decode prog_47_method_11_code 4 = .ok (.ifCond .eq 14, 3) := by decide +kernel
theorem own_d12_18 : decode prog_47_method_11_code 18 = .ok (.aload_n 0, 1) := by decide +kernel
theorem own_d12_19 : decode prog_47_method_11_code 19 = .ok (.getfield 13, 3) := by decide +kernel
theorem own_d12_22 : decode prog_47_method_11_code 22 = .ok (.iload_n 1, 1) := by decide +kernel
theorem own_d12_23 : decode prog_47_method_11_code 23 = .ok (.laload, 1) := by decide +kernel
theorem own_d12_24 : decode prog_47_method_11_code 24 = .ok (.bipush 32, 2) := by decide +kernel
theorem own_d12_26 : decode prog_47_method_11_code 26 = .ok (.lushr, 1) := by decide +kernel
theorem own_d12_27 : decode prog_47_method_11_code 27 = .ok (.l2i, 1) := by decide +kernel
theorem own_d12_28 : decode prog_47_method_11_code 28 = .ok (.ireturn, 1) := by decide +kernel
theorem own_ef_own_rm12 (m : MethodId) (r0 : Addr) (x1 : Int32) : entryFrame m #[(.ref r0), (.int x1)] 2 = mkF m 0 #[.val (.ref r0), .val (.int x1)] [] := by first | (simp [entryFrame, mkF, argsToLocals, Value.category]; done) | rfl
def own_Q_own_rm12 (Z : State) (x1 : Int32) (es : List Int64) (ml : Int32) (i : Nat) (h0 : Heap) (n0 : Nat) (v : Option Value) (h : Heap) : Prop := v = some (.int (own_pl (es.getD i 0))) ∧ h0 = h
set_option maxRecDepth 65536 in
set_option maxHeartbeats 40000000 in
theorem own_rm12 (l : Launch) (Z : State) (a0 : Array Value) (hw : ∀ d ∈ tables_1, d.before a0 Z = true) (ws : List Jvm.Cond) (r0 : Addr) (x1 : Int32) (ra : Addr) (es : List Int64) (ml : Int32) (i : Nat) (h0 : Heap) (n0 : Nat)  (E : Exa Z h0 r0 "com/example/poset/poset/core/Marking") (FS : Fld Z h0 r0 "com/example/poset/poset/core/Marking" "size" "I" (.int 3)) (FE : Fld Z h0 r0 "com/example/poset/poset/core/Marking" "entries" "[J" (.ref ra)) (FW : Fld Z h0 r0 "com/example/poset/poset/core/Marking" "wide" "Z" (.int 0)) (A : own_A Z h0 ra .long (es.map Value.long)) (hml_ : ml.toInt = (es.length : Int)) (hm3 : es.length ≤ 3) (hi : x1.toInt = (i : Int)) (hil : i < es.length) :
    own_Con l Z (⟨"com/example/poset/poset/core/Marking", "placeAt", "(I)I"⟩ : MethodName) prog_47_method_11_code 2 (some .int) ws ({ frames := 0, cells := 0, slots := 0, locals := 0 } : Room) #[(.ref r0), (.int x1)] h0 n0 (own_Q_own_rm12 Z x1 es ml i h0 n0) := by
  refine own_body (plainFor_of_name own_pn0) ?_
  intro p e s m below meth c T0 hx hZ hby hml hown hnm hret hlk Y0
  replace hown : s.vm.findClass "com/example/poset/poset/core/Marking" = some m.cls := hown
  replace hnm : meth.name = "placeAt" := hnm
  rw [own_ef_own_rm12 m r0 x1]
  show own_Ends _ _ _ _ (T0.setTop (mkF m 0 #[.val (.ref r0), .val (.int x1)] []))
  obtain ⟨i0, i1⟩ := own_nat hi
  refine own_st (fun t_ => XS.aloadN (own_here Y0) hx rfl (hb hby own_d12_0) rfl rfl) ?_
  show own_Ends _ _ _ _ (T0.setTop (mkF m 1 #[.val (.ref r0), .val (.int x1)] [(.ref r0)]))
  refine own_getF Y0 hx hZ hown (host := "") (Or.inl (hw _ (List.mem_of_getElem? (i := 26) rfl))) Via.refl FW rfl rfl (hb hby own_d12_1) (fun T7 Y8 => ?_)
  show own_Ends _ _ _ _ (T7.setTop (mkF m 4 #[.val (.ref r0), .val (.int x1)] [(.int (0 : Int32))]))
  refine own_st (fun t_ => XS.ifYes (own_here Y8) hx rfl (pc0 := 4) (pc' := 18) rfl (hb hby own_d12_4) rfl (XT.i0_eq_t (by decide)) (by decide) (by decide)) ?_
  show own_Ends _ _ _ _ (T7.setTop (mkF m 18 #[.val (.ref r0), .val (.int x1)] []))
  refine own_st (fun t_ => XS.aloadN (own_here Y8) hx rfl (hb hby own_d12_18) rfl rfl) ?_
  show own_Ends _ _ _ _ (T7.setTop (mkF m 19 #[.val (.ref r0), .val (.int x1)] [(.ref r0)]))
  refine own_getF Y8 hx hZ hown (host := "") (Or.inl (hw _ (List.mem_of_getElem? (i := 24) rfl))) Via.refl FE rfl rfl (hb hby own_d12_19) (fun T9 Y10 => ?_)
  show own_Ends _ _ _ _ (T9.setTop (mkF m 22 #[.val (.ref r0), .val (.int x1)] [(.ref ra)]))
  refine own_st (fun t_ => XS.iloadN (own_here Y10) hx rfl (hb hby own_d12_22) rfl) ?_
  show own_Ends _ _ _ _ (T9.setTop (mkF m 23 #[.val (.ref r0), .val (.int x1)] [(.int x1), (.ref ra)]))
  refine own_ldJ Y10 hx hZ A (i := i) i0 i1 (own_jlen (by omega)) (v := (.long (es.getD i 0))) (own_jget (own_jlen (by omega))) rfl rfl (hb hby own_d12_23) ?_
  show own_Ends _ _ _ _ (T9.setTop (mkF m 24 #[.val (.ref r0), .val (.int x1)] [(.long (es.getD i 0))]))
  refine own_st (fun t_ => XS.bipush (own_here Y10) hx rfl (hb hby own_d12_24) ) ?_
  show own_Ends _ _ _ _ (T9.setTop (mkF m 26 #[.val (.ref r0), .val (.int x1)] [(.int (32 : Int32)), (.long (es.getD i 0))]))
  refine own_st (fun t_ => XS.lushr (own_here Y10) hx rfl (hb hby own_d12_26) rfl) ?_
  show own_Ends _ _ _ _ (T9.setTop (mkF m 27 #[.val (.ref r0), .val (.int x1)] [(.long (((es.getD i 0).toUInt64 >>> ((32 : Int32) &&& 0x3f).toInt64.toUInt64).toInt64))]))
  refine own_st (fun t_ => XS.l2i (own_here Y10) hx rfl (hb hby own_d12_27) rfl) ?_
  show own_Ends _ _ _ _ (T9.setTop (mkF m 28 #[.val (.ref r0), .val (.int x1)] [(.int ((((es.getD i 0).toUInt64 >>> ((32 : Int32) &&& 0x3f).toInt64.toUInt64).toInt64).toInt32))]))
  refine own_retI Y10 hx hlk hret (hb hby own_d12_28) (by decide) (by decide) ?_
  exact ⟨rfl, rfl⟩
theorem own_d13_0 : decode prog_47_method_12_code 0 = .ok (.aload_n 0, 1) := by decide +kernel
theorem own_d13_1 : decode prog_47_method_12_code 1 = .ok (.getfield 17, 3) := by decide +kernel
theorem own_d13_4 : decode prog_47_method_12_code 4 = .ok (.ifCond .eq 16, 3) := by decide +kernel
theorem own_d13_20 : decode prog_47_method_12_code 20 = .ok (.aload_n 0, 1) := by decide +kernel
theorem own_d13_21 : decode prog_47_method_12_code 21 = .ok (.getfield 13, 3) := by decide +kernel
theorem own_d13_24 : decode prog_47_method_12_code 24 = .ok (.iload_n 1, 1) := by decide +kernel
theorem own_d13_25 : decode prog_47_method_12_code 25 = .ok (.laload, 1) := by decide +kernel
theorem own_d13_26 : decode prog_47_method_12_code 26 = .ok (.ldc2_w 53, 3) := by decide +kernel
theorem own_d13_29 : decode prog_47_method_12_code 29 = .ok (.land, 1) := by decide +kernel
theorem own_d13_30 : decode prog_47_method_12_code 30 = .ok (.lreturn, 1) := by decide +kernel
theorem own_ef_own_rm13 (m : MethodId) (r0 : Addr) (x1 : Int32) : entryFrame m #[(.ref r0), (.int x1)] 2 = mkF m 0 #[.val (.ref r0), .val (.int x1)] [] := by first | (simp [entryFrame, mkF, argsToLocals, Value.category]; done) | rfl
def own_Q_own_rm13 (Z : State) (x1 : Int32) (es : List Int64) (ml : Int32) (i : Nat) (h0 : Heap) (n0 : Nat) (v : Option Value) (h : Heap) : Prop := v = some (.long (own_cn (es.getD i 0))) ∧ h0 = h
set_option maxRecDepth 65536 in
set_option maxHeartbeats 40000000 in
theorem own_rm13 (l : Launch) (Z : State) (a0 : Array Value) (hw : ∀ d ∈ tables_1, d.before a0 Z = true) (ws : List Jvm.Cond) (r0 : Addr) (x1 : Int32) (ra : Addr) (es : List Int64) (ml : Int32) (i : Nat) (h0 : Heap) (n0 : Nat)  (E : Exa Z h0 r0 "com/example/poset/poset/core/Marking") (FS : Fld Z h0 r0 "com/example/poset/poset/core/Marking" "size" "I" (.int 3)) (FE : Fld Z h0 r0 "com/example/poset/poset/core/Marking" "entries" "[J" (.ref ra)) (FW : Fld Z h0 r0 "com/example/poset/poset/core/Marking" "wide" "Z" (.int 0)) (A : own_A Z h0 ra .long (es.map Value.long)) (hml_ : ml.toInt = (es.length : Int)) (hm3 : es.length ≤ 3) (hi : x1.toInt = (i : Int)) (hil : i < es.length) :
    own_Con l Z (⟨"com/example/poset/poset/core/Marking", "countAt", "(I)J"⟩ : MethodName) prog_47_method_12_code 2 (some .long) ws ({ frames := 0, cells := 0, slots := 0, locals := 0 } : Room) #[(.ref r0), (.int x1)] h0 n0 (own_Q_own_rm13 Z x1 es ml i h0 n0) := by
  refine own_body (plainFor_of_name own_pn0) ?_
  intro p e s m below meth c T0 hx hZ hby hml hown hnm hret hlk Y0
  replace hown : s.vm.findClass "com/example/poset/poset/core/Marking" = some m.cls := hown
  replace hnm : meth.name = "countAt" := hnm
  rw [own_ef_own_rm13 m r0 x1]
  show own_Ends _ _ _ _ (T0.setTop (mkF m 0 #[.val (.ref r0), .val (.int x1)] []))
  obtain ⟨i0, i1⟩ := own_nat hi
  refine own_st (fun t_ => XS.aloadN (own_here Y0) hx rfl (hb hby own_d13_0) rfl rfl) ?_
  show own_Ends _ _ _ _ (T0.setTop (mkF m 1 #[.val (.ref r0), .val (.int x1)] [(.ref r0)]))
  refine own_getF Y0 hx hZ hown (host := "") (Or.inl (hw _ (List.mem_of_getElem? (i := 26) rfl))) Via.refl FW rfl rfl (hb hby own_d13_1) (fun T11 Y12 => ?_)
  show own_Ends _ _ _ _ (T11.setTop (mkF m 4 #[.val (.ref r0), .val (.int x1)] [(.int (0 : Int32))]))
  refine own_st (fun t_ => XS.ifYes (own_here Y12) hx rfl (pc0 := 4) (pc' := 20) rfl (hb hby own_d13_4) rfl (XT.i0_eq_t (by decide)) (by decide) (by decide)) ?_
  show own_Ends _ _ _ _ (T11.setTop (mkF m 20 #[.val (.ref r0), .val (.int x1)] []))
  refine own_st (fun t_ => XS.aloadN (own_here Y12) hx rfl (hb hby own_d13_20) rfl rfl) ?_
  show own_Ends _ _ _ _ (T11.setTop (mkF m 21 #[.val (.ref r0), .val (.int x1)] [(.ref r0)]))
  refine own_getF Y12 hx hZ hown (host := "") (Or.inl (hw _ (List.mem_of_getElem? (i := 24) rfl))) Via.refl FE rfl rfl (hb hby own_d13_21) (fun T13 Y14 => ?_)
  show own_Ends _ _ _ _ (T13.setTop (mkF m 24 #[.val (.ref r0), .val (.int x1)] [(.ref ra)]))
  refine own_st (fun t_ => XS.iloadN (own_here Y14) hx rfl (hb hby own_d13_24) rfl) ?_
  show own_Ends _ _ _ _ (T13.setTop (mkF m 25 #[.val (.ref r0), .val (.int x1)] [(.int x1), (.ref ra)]))
  refine own_ldJ Y14 hx hZ A (i := i) i0 i1 (own_jlen (by omega)) (v := (.long (es.getD i 0))) (own_jget (own_jlen (by omega))) rfl rfl (hb hby own_d13_25) ?_
  show own_Ends _ _ _ _ (T13.setTop (mkF m 26 #[.val (.ref r0), .val (.int x1)] [(.long (es.getD i 0))]))
  refine own_ldcJ Y14 hx hZ hown (hw _ (List.mem_of_getElem? (i := 66) rfl)) rfl (hb hby own_d13_26) ?_
  show own_Ends _ _ _ _ (T13.setTop (mkF m 29 #[.val (.ref r0), .val (.int x1)] [(.long (4294967295 : Int64)), (.long (es.getD i 0))]))
  refine own_st (fun t_ => XS.land (own_here Y14) hx rfl (hb hby own_d13_29) rfl) ?_
  show own_Ends _ _ _ _ (T13.setTop (mkF m 30 #[.val (.ref r0), .val (.int x1)] [(.long ((es.getD i 0) &&& (4294967295 : Int64)))]))
  refine own_retJ Y14 hx hlk hret (hb hby own_d13_30) (by decide) (by decide) ?_
  exact ⟨rfl, rfl⟩
theorem own_pd0 : parseMethodDescriptor "(I)I" = some ⟨[.int], some .int⟩ := by decide +kernel
theorem own_d14_0 : decode prog_47_method_7_code 0 = .ok (.aload_n 0, 1) := by decide +kernel
theorem own_d14_1 : decode prog_47_method_7_code 1 = .ok (.iload_n 1, 1) := by decide +kernel
theorem own_d14_2 : decode prog_47_method_7_code 2 = .ok (.invokevirtual 68, 3) := by decide +kernel
theorem own_d14_5 : decode prog_47_method_7_code 5 = .ok (.ireturn, 1) := by decide +kernel
theorem own_ef_own_rm14 (m : MethodId) (r0 : Addr) (x1 : Int32) : entryFrame m #[(.ref r0), (.int x1)] 2 = mkF m 0 #[.val (.ref r0), .val (.int x1)] [] := by first | (simp [entryFrame, mkF, argsToLocals, Value.category]; done) | rfl
def own_Q_own_rm14 (Z : State) (x1 : Int32) (es : List Int64) (ml : Int32) (i : Nat) (h0 : Heap) (n0 : Nat) (v : Option Value) (h : Heap) : Prop := v = some (.int (own_pl (es.getD i 0))) ∧ h0 = h
set_option maxRecDepth 65536 in
set_option maxHeartbeats 40000000 in
theorem own_rm14 (l : Launch) (Z : State) (a0 : Array Value) (hw : ∀ d ∈ tables_1, d.before a0 Z = true) (ws : List Jvm.Cond) (r0 : Addr) (x1 : Int32) (ra : Addr) (es : List Int64) (ml : Int32) (i : Nat) (h0 : Heap) (n0 : Nat)  (E : Exa Z h0 r0 "com/example/poset/poset/core/Marking") (FS : Fld Z h0 r0 "com/example/poset/poset/core/Marking" "size" "I" (.int 3)) (FE : Fld Z h0 r0 "com/example/poset/poset/core/Marking" "entries" "[J" (.ref ra)) (FW : Fld Z h0 r0 "com/example/poset/poset/core/Marking" "wide" "Z" (.int 0)) (A : own_A Z h0 ra .long (es.map Value.long)) (hml_ : ml.toInt = (es.length : Int)) (hm3 : es.length ≤ 3) (hi : x1.toInt = (i : Int)) (hil : i < es.length) :
    own_Con l Z (⟨"com/example/poset/poset/core/Marking", "markedPlace", "(I)I"⟩ : MethodName) prog_47_method_7_code 2 (some .int) ws ({ frames := 1, cells := 0, slots := 0, locals := 13 } : Room) #[(.ref r0), (.int x1)] h0 n0 (own_Q_own_rm14 Z x1 es ml i h0 n0) := by
  refine own_body (plainFor_of_name own_pn0) ?_
  intro p e s m below meth c T0 hx hZ hby hml hown hnm hret hlk Y0
  replace hown : s.vm.findClass "com/example/poset/poset/core/Marking" = some m.cls := hown
  replace hnm : meth.name = "markedPlace" := hnm
  rw [own_ef_own_rm14 m r0 x1]
  show own_Ends _ _ _ _ (T0.setTop (mkF m 0 #[.val (.ref r0), .val (.int x1)] []))
  refine own_st (fun t_ => XS.aloadN (own_here Y0) hx rfl (hb hby own_d14_0) rfl rfl) ?_
  show own_Ends _ _ _ _ (T0.setTop (mkF m 1 #[.val (.ref r0), .val (.int x1)] [(.ref r0)]))
  refine own_st (fun t_ => XS.iloadN (own_here Y0) hx rfl (hb hby own_d14_1) rfl) ?_
  show own_Ends _ _ _ _ (T0.setTop (mkF m 2 #[.val (.ref r0), .val (.int x1)] [(.int x1), (.ref r0)]))
  refine own_callP Y0 hx hZ (y := (⟨"com/example/poset/poset/core/Marking", "placeAt", "(I)I"⟩ : MethodName)) hown (hw _ (List.mem_of_getElem? (i := 58) rfl)) (hw _ (List.mem_of_getElem? (i := 59) rfl)) (hw _ (List.mem_of_getElem? (i := 15) rfl)) (hw _ (List.mem_of_getElem? (i := 60) rfl)) (hw _ (List.mem_of_getElem? (i := 4) rfl)) (hw _ (List.mem_of_getElem? (i := 61) rfl)) (by decide) (a := r0) E (argsL := [(.int x1)]) (rest := []) (own_rm12 l Z a0 hw [] r0 x1 ra es ml i h0 n0  E FS FE FW A hml_ hm3 hi (by omega)) (W := 0) (by decide) (by decide) (by decide) (by decide) rfl (by rw [hml]; rfl) (lenOf own_pd0 rfl) rfl (by show 2 * 0 + _ ≤ _; exact Nat.le_of_eq rfl) (hb hby own_d14_2) (fun T15 h17 v18 Y16 q19 => ?_)
  obtain ⟨rfl, rfl⟩ := q19
  show own_Ends _ _ _ _ (T15.setTop (mkF m 5 #[.val (.ref r0), .val (.int x1)] [(.int (own_pl (es.getD i 0)))]))
  refine own_retI Y16 hx hlk hret (hb hby own_d14_5) (by decide) (by decide) ?_
  exact ⟨rfl, rfl⟩
theorem own_pd1 : parseMethodDescriptor "()I" = some ⟨[], some .int⟩ := by decide +kernel
theorem own_d11_0 : decode prog_47_method_16_code 0 = .ok (.iload_n 1, 1) := by decide +kernel
theorem own_d11_1 : decode prog_47_method_16_code 1 = .ok (.istore_n 3, 1) := by decide +kernel
theorem own_d11_2 : decode prog_47_method_16_code 2 = .ok (.aload_n 0, 1) := by decide +kernel
theorem own_d11_3 : decode prog_47_method_16_code 3 = .ok (.invokevirtual 36, 3) := by decide +kernel
theorem own_d11_6 : decode prog_47_method_16_code 6 = .ok (.iconst 1, 1) := by decide +kernel
theorem own_d11_7 : decode prog_47_method_16_code 7 = .ok (.isub, 1) := by decide +kernel
theorem own_d11_8 : decode prog_47_method_16_code 8 = .ok (.istore 4, 2) := by decide +kernel
theorem own_d11_10 : decode prog_47_method_16_code 10 = .ok (.iload_n 3, 1) := by decide +kernel
theorem own_d11_11 : decode prog_47_method_16_code 11 = .ok (.iload 4, 2) := by decide +kernel
theorem own_d11_13 : decode prog_47_method_16_code 13 = .ok (.if_icmp .gt 54, 3) := by decide +kernel
theorem own_d11_67 : decode prog_47_method_16_code 67 = .ok (.iload_n 3, 1) := by decide +kernel
theorem own_d11_68 : decode prog_47_method_16_code 68 = .ok (.ineg, 1) := by decide +kernel
theorem own_d11_69 : decode prog_47_method_16_code 69 = .ok (.iconst 1, 1) := by decide +kernel
theorem own_d11_70 : decode prog_47_method_16_code 70 = .ok (.isub, 1) := by decide +kernel
theorem own_d11_71 : decode prog_47_method_16_code 71 = .ok (.ireturn, 1) := by decide +kernel
theorem own_d11_16 : decode prog_47_method_16_code 16 = .ok (.iload_n 3, 1) := by decide +kernel
theorem own_d11_17 : decode prog_47_method_16_code 17 = .ok (.iload 4, 2) := by decide +kernel
theorem own_d11_19 : decode prog_47_method_16_code 19 = .ok (.iadd, 1) := by decide +kernel
theorem own_d11_20 : decode prog_47_method_16_code 20 = .ok (.iconst 1, 1) := by decide +kernel
theorem own_d11_21 : decode prog_47_method_16_code 21 = .ok (.iushr, 1) := by decide +kernel
theorem own_d11_22 : decode prog_47_method_16_code 22 = .ok (.istore 5, 2) := by decide +kernel
theorem own_d11_24 : decode prog_47_method_16_code 24 = .ok (.aload_n 0, 1) := by decide +kernel
theorem own_d11_25 : decode prog_47_method_16_code 25 = .ok (.iload 5, 2) := by decide +kernel
theorem own_d11_27 : decode prog_47_method_16_code 27 = .ok (.invokevirtual 68, 3) := by decide +kernel
theorem own_d11_30 : decode prog_47_method_16_code 30 = .ok (.istore 6, 2) := by decide +kernel
theorem own_d11_32 : decode prog_47_method_16_code 32 = .ok (.iload 6, 2) := by decide +kernel
theorem own_d11_34 : decode prog_47_method_16_code 34 = .ok (.iload_n 2, 1) := by decide +kernel
theorem own_d11_35 : decode prog_47_method_16_code 35 = .ok (.if_icmp .ge 11, 3) := by decide +kernel
theorem own_d11_38 : decode prog_47_method_16_code 38 = .ok (.iload 5, 2) := by decide +kernel
theorem own_d11_40 : decode prog_47_method_16_code 40 = .ok (.iconst 1, 1) := by decide +kernel
theorem own_d11_41 : decode prog_47_method_16_code 41 = .ok (.iadd, 1) := by decide +kernel
theorem own_d11_42 : decode prog_47_method_16_code 42 = .ok (.istore_n 3, 1) := by decide +kernel
theorem own_d11_43 : decode prog_47_method_16_code 43 = .ok (.goto 21, 3) := by decide +kernel
theorem own_d11_64 : decode prog_47_method_16_code 64 = .ok (.goto (-54), 3) := by decide +kernel
theorem own_d11_46 : decode prog_47_method_16_code 46 = .ok (.iload 6, 2) := by decide +kernel
theorem own_d11_48 : decode prog_47_method_16_code 48 = .ok (.iload_n 2, 1) := by decide +kernel
theorem own_d11_49 : decode prog_47_method_16_code 49 = .ok (.if_icmp .le 12, 3) := by decide +kernel
theorem own_d11_52 : decode prog_47_method_16_code 52 = .ok (.iload 5, 2) := by decide +kernel
theorem own_d11_54 : decode prog_47_method_16_code 54 = .ok (.iconst 1, 1) := by decide +kernel
theorem own_d11_55 : decode prog_47_method_16_code 55 = .ok (.isub, 1) := by decide +kernel
theorem own_d11_56 : decode prog_47_method_16_code 56 = .ok (.istore 4, 2) := by decide +kernel
theorem own_d11_58 : decode prog_47_method_16_code 58 = .ok (.goto 6, 3) := by decide +kernel
theorem own_d11_61 : decode prog_47_method_16_code 61 = .ok (.iload 5, 2) := by decide +kernel
theorem own_d11_63 : decode prog_47_method_16_code 63 = .ok (.ireturn, 1) := by decide +kernel
theorem own_ef_own_rm11 (m : MethodId) (r0 : Addr) (x2 : Int32) : entryFrame m #[(.ref r0), (.int (0 : Int32)), (.int x2)] 7 = mkF m 0 #[.val (.ref r0), .val (.int (0 : Int32)), .val (.int x2), .unset, .unset, .unset, .unset] [] := by first | (simp [entryFrame, mkF, argsToLocals, Value.category]; done) | rfl
def own_Q_own_rm11 (Z : State) (x2 : Int32) (es : List Int64) (h0 : Heap) (n0 : Nat) (v : Option Value) (h : Heap) : Prop := ∃ r : Int32, v = some (.int r) ∧ h0 = h ∧ ((∃ k : Nat, k < es.length ∧ own_pl (es.getD k 0) = x2 ∧ r.toInt = (k : Int)) ∨ (r < 0 ∧ ∀ k : Nat, k < es.length → ¬ own_pl (es.getD k 0) = x2))
set_option maxRecDepth 65536 in
set_option maxHeartbeats 40000000 in
theorem own_rm11 (l : Launch) (Z : State) (a0 : Array Value) (hw : ∀ d ∈ tables_1, d.before a0 Z = true) (ws : List Jvm.Cond) (r0 : Addr) (x2 : Int32) (ra : Addr) (es : List Int64) (ml : Int32) (h0 : Heap) (n0 : Nat)  (E : Exa Z h0 r0 "com/example/poset/poset/core/Marking") (FS : Fld Z h0 r0 "com/example/poset/poset/core/Marking" "size" "I" (.int 3)) (FE : Fld Z h0 r0 "com/example/poset/poset/core/Marking" "entries" "[J" (.ref ra)) (FW : Fld Z h0 r0 "com/example/poset/poset/core/Marking" "wide" "Z" (.int 0)) (A : own_A Z h0 ra .long (es.map Value.long)) (hml_ : ml.toInt = (es.length : Int)) (hm3 : es.length ≤ 3) (hord : own_ord es) :
    own_Con l Z (⟨"com/example/poset/poset/core/Marking", "find", "(II)I"⟩ : MethodName) prog_47_method_16_code 7 (some .int) ws ({ frames := 1, cells := 0, slots := 0, locals := 13 } : Room) #[(.ref r0), (.int (0 : Int32)), (.int x2)] h0 n0 (own_Q_own_rm11 Z x2 es h0 n0) := by
  refine own_body (plainFor_of_name own_pn0) ?_
  intro p e s m below meth c T0 hx hZ hby hml hown hnm hret hlk Y0
  replace hown : s.vm.findClass "com/example/poset/poset/core/Marking" = some m.cls := hown
  replace hnm : meth.name = "find" := hnm
  rw [own_ef_own_rm11 m r0 x2]
  show own_Ends _ _ _ _ (T0.setTop (mkF m 0 #[.val (.ref r0), .val (.int (0 : Int32)), .val (.int x2), .unset, .unset, .unset, .unset] []))
  refine own_st (fun t_ => XS.iloadN (own_here Y0) hx rfl (hb hby own_d11_0) rfl) ?_
  show own_Ends _ _ _ _ (T0.setTop (mkF m 1 #[.val (.ref r0), .val (.int (0 : Int32)), .val (.int x2), .unset, .unset, .unset, .unset] [(.int (0 : Int32))]))
  refine own_st (fun t_ => XS.istoreN (own_here Y0) hx rfl (hb hby own_d11_1) rfl (l' := #[.val (.ref r0), .val (.int (0 : Int32)), .val (.int x2), .val (.int (0 : Int32)), .unset, .unset, .unset]) rfl) ?_
  show own_Ends _ _ _ _ (T0.setTop (mkF m 2 #[.val (.ref r0), .val (.int (0 : Int32)), .val (.int x2), .val (.int (0 : Int32)), .unset, .unset, .unset] []))
  refine own_st (fun t_ => XS.aloadN (own_here Y0) hx rfl (hb hby own_d11_2) rfl rfl) ?_
  show own_Ends _ _ _ _ (T0.setTop (mkF m 3 #[.val (.ref r0), .val (.int (0 : Int32)), .val (.int x2), .val (.int (0 : Int32)), .unset, .unset, .unset] [(.ref r0)]))
  refine own_callV Y0 hx hZ (y := (⟨"com/example/poset/poset/core/Marking", "markedCount", "()I"⟩ : MethodName)) (z := (⟨"com/example/poset/poset/core/Marking", "markedCount", "()I"⟩ : MethodName)) hown (hw _ (List.mem_of_getElem? (i := 57) rfl)) (hw _ (List.mem_of_getElem? (i := 36) rfl)) (notFace_of_selects (args := #[]) (mvT hZ (hw _ (List.mem_of_getElem? (i := 38) rfl)))) (hw _ (List.mem_of_getElem? (i := 38) rfl)) (hw _ (List.mem_of_getElem? (i := 37) rfl)) (hw _ (List.mem_of_getElem? (i := 4) rfl)) (hw _ (List.mem_of_getElem? (i := 39) rfl)) (by decide) (a := r0) E (argsL := []) (rest := []) (own_rm7 l Z a0 hw [] r0 ra es ml  h0 n0  E FS FE FW A hml_ hm3 ) (W := 0) (by decide) (by decide) (by decide) (by decide) rfl (by rw [hml]; rfl) (lenOf own_pd1 rfl) rfl (by show 2 * 0 + _ ≤ _; exact Nat.le_of_eq rfl) (hb hby own_d11_3) (fun T20 h22 v23 Y21 q24 => ?_)
  obtain ⟨rfl, rfl⟩ := q24
  show own_Ends _ _ _ _ (T20.setTop (mkF m 6 #[.val (.ref r0), .val (.int (0 : Int32)), .val (.int x2), .val (.int (0 : Int32)), .unset, .unset, .unset] [(.int ml)]))
  refine own_st (fun t_ => XS.iconst (own_here Y21) hx rfl (hb hby own_d11_6) ) ?_
  show own_Ends _ _ _ _ (T20.setTop (mkF m 7 #[.val (.ref r0), .val (.int (0 : Int32)), .val (.int x2), .val (.int (0 : Int32)), .unset, .unset, .unset] [(.int (1 : Int32)), (.int ml)]))
  refine own_st (fun t_ => XS.isub (own_here Y21) hx rfl (hb hby own_d11_7) rfl) ?_
  show own_Ends _ _ _ _ (T20.setTop (mkF m 8 #[.val (.ref r0), .val (.int (0 : Int32)), .val (.int x2), .val (.int (0 : Int32)), .unset, .unset, .unset] [(.int (ml - (1 : Int32)))]))
  refine own_st (fun t_ => XS.istore (own_here Y21) hx rfl (hb hby own_d11_8) rfl (l' := #[.val (.ref r0), .val (.int (0 : Int32)), .val (.int x2), .val (.int (0 : Int32)), .val (.int (ml - (1 : Int32))), .unset, .unset]) rfl) ?_
  show own_Ends _ _ _ _ (T20.setTop (mkF m 10 #[.val (.ref r0), .val (.int (0 : Int32)), .val (.int x2), .val (.int (0 : Int32)), .val (.int (ml - (1 : Int32))), .unset, .unset] []))
  have ehi : (ml - 1).toInt = (es.length : Int) - 1 := by have q := own_sub hml_ own_l1; rw [q]; omega
  have hL25 : ∀ (k : Nat) (T26 : State)  (lo u : Nat) (j g_ : Int32) (s5 s6 : Slot) (Y27 : own_S p l e ({ frames := 1, cells := 0, slots := 0, locals := 13 } : Room) s m #[(.ref r0), (.int (0 : Int32)), (.int x2)] below meth c n0 T26 h0 0 0)  (hlo : j.toInt = (lo : Int)) (hhi : g_.toInt = (u : Int) - 1) (hle : lo ≤ u) (hum : u ≤ es.length) (hlow : ∀ k : Nat, k < lo → (own_pl (es.getD k 0)).toInt < x2.toInt) (hhigh : ∀ k : Nat, u ≤ k → k < es.length → x2.toInt < (own_pl (es.getD k 0)).toInt) (hk : k = u - lo) (hs5 : One s5) (hs6 : One s6), own_Ends p.tables e below (own_P s n0 (own_Q_own_rm11 Z x2 es h0 n0) ({ frames := 1, cells := 0, slots := 0, locals := 13 } : Room).cells ({ frames := 1, cells := 0, slots := 0, locals := 13 } : Room).slots) (T26.setTop (mkF m 10 #[.val (.ref r0), .val (.int (0 : Int32)), .val (.int x2), .val (.int j), .val (.int g_), s5, s6] [])) := by
   intro k
   induction k using Nat.strongRecOn with
   | _ k ih =>
    intro T26  lo u j g_ s5 s6 Y27  hlo hhi hle hum hlow hhigh hk hs5 hs6
    refine own_st (fun t_ => XS.iloadN (own_here Y27) hx rfl (hb hby own_d11_10) rfl) ?_
    show own_Ends _ _ _ _ (T26.setTop (mkF m 11 #[.val (.ref r0), .val (.int (0 : Int32)), .val (.int x2), .val (.int j), .val (.int g_), s5, s6] [(.int j)]))
    refine own_st (fun t_ => XS.iload (own_here Y27) hx rfl (hb hby own_d11_11) rfl) ?_
    show own_Ends _ _ _ _ (T26.setTop (mkF m 13 #[.val (.ref r0), .val (.int (0 : Int32)), .val (.int x2), .val (.int j), .val (.int g_), s5, s6] [(.int g_), (.int j)]))
    by_cases c13_28 : g_ < j
    ·
     refine own_st (fun t_ => XS.icmpYes (own_here Y27) hx rfl (pc0 := 13) (pc' := 67) rfl (hb hby own_d11_13) rfl (XT.ii_gt_t c13_28) (by decide) (by decide)) ?_
     show own_Ends _ _ _ _ (T26.setTop (mkF m 67 #[.val (.ref r0), .val (.int (0 : Int32)), .val (.int x2), .val (.int j), .val (.int g_), s5, s6] []))
     refine own_st (fun t_ => XS.iloadN (own_here Y27) hx rfl (hb hby own_d11_67) rfl) ?_
     show own_Ends _ _ _ _ (T26.setTop (mkF m 68 #[.val (.ref r0), .val (.int (0 : Int32)), .val (.int x2), .val (.int j), .val (.int g_), s5, s6] [(.int j)]))
     refine own_st (fun t_ => XS.ineg (own_here Y27) hx rfl (hb hby own_d11_68) rfl) ?_
     show own_Ends _ _ _ _ (T26.setTop (mkF m 69 #[.val (.ref r0), .val (.int (0 : Int32)), .val (.int x2), .val (.int j), .val (.int g_), s5, s6] [(.int (-j))]))
     refine own_st (fun t_ => XS.iconst (own_here Y27) hx rfl (hb hby own_d11_69) ) ?_
     show own_Ends _ _ _ _ (T26.setTop (mkF m 70 #[.val (.ref r0), .val (.int (0 : Int32)), .val (.int x2), .val (.int j), .val (.int g_), s5, s6] [(.int (1 : Int32)), (.int (-j))]))
     refine own_st (fun t_ => XS.isub (own_here Y27) hx rfl (hb hby own_d11_70) rfl) ?_
     show own_Ends _ _ _ _ (T26.setTop (mkF m 71 #[.val (.ref r0), .val (.int (0 : Int32)), .val (.int x2), .val (.int j), .val (.int g_), s5, s6] [(.int ((-j) - (1 : Int32)))]))
     refine own_retI Y27 hx hlk hret (hb hby own_d11_71) (by decide) (by decide) ?_
     have hul : u = lo := by have := c13_28; rw [own_lt, hhi, hlo] at this; omega
     subst hul
     refine ⟨_, rfl, rfl, Or.inr ⟨?_, fun k hk => ?_⟩⟩
     · have a1 := c_ineg j; have a2 := rng32 (-j); have a3 := c_isub (-j) 1; have a4 := rng32 (-j - 1); have e1 : (1 : Int32).toInt = 1 := rfl; rw [own_lt]; show (-j - 1).toInt < 0; omega
     · rw [own_eq]; rcases Nat.lt_or_ge k u with h | h
       · have := hlow k h; omega
       · have := hhigh k h hk; omega
    ·
     refine own_st (fun t_ => XS.icmpNo (own_here Y27) hx rfl (hb hby own_d11_13) rfl (XT.ii_gt_f c13_28)) ?_
     show own_Ends _ _ _ _ (T26.setTop (mkF m 16 #[.val (.ref r0), .val (.int (0 : Int32)), .val (.int x2), .val (.int j), .val (.int g_), s5, s6] []))
     refine own_st (fun t_ => XS.iloadN (own_here Y27) hx rfl (hb hby own_d11_16) rfl) ?_
     show own_Ends _ _ _ _ (T26.setTop (mkF m 17 #[.val (.ref r0), .val (.int (0 : Int32)), .val (.int x2), .val (.int j), .val (.int g_), s5, s6] [(.int j)]))
     refine own_st (fun t_ => XS.iload (own_here Y27) hx rfl (hb hby own_d11_17) rfl) ?_
     show own_Ends _ _ _ _ (T26.setTop (mkF m 19 #[.val (.ref r0), .val (.int (0 : Int32)), .val (.int x2), .val (.int j), .val (.int g_), s5, s6] [(.int g_), (.int j)]))
     refine own_st (fun t_ => XS.iadd (own_here Y27) hx rfl (hb hby own_d11_19) rfl) ?_
     show own_Ends _ _ _ _ (T26.setTop (mkF m 20 #[.val (.ref r0), .val (.int (0 : Int32)), .val (.int x2), .val (.int j), .val (.int g_), s5, s6] [(.int (j + g_))]))
     refine own_st (fun t_ => XS.iconst (own_here Y27) hx rfl (hb hby own_d11_20) ) ?_
     show own_Ends _ _ _ _ (T26.setTop (mkF m 21 #[.val (.ref r0), .val (.int (0 : Int32)), .val (.int x2), .val (.int j), .val (.int g_), s5, s6] [(.int (1 : Int32)), (.int (j + g_))]))
     refine own_st (fun t_ => XS.iushr (own_here Y27) hx rfl (hb hby own_d11_21) rfl) ?_
     show own_Ends _ _ _ _ (T26.setTop (mkF m 22 #[.val (.ref r0), .val (.int (0 : Int32)), .val (.int x2), .val (.int j), .val (.int g_), s5, s6] [(.int (((j + g_).toUInt32 >>> ((1 : Int32) &&& 31).toUInt32).toInt32))]))
     refine own_st (fun t_ => XS.istoreS (own_here Y27) hx rfl (hb hby own_d11_22) rfl rfl hs5) ?_
     show own_Ends _ _ _ _ (T26.setTop (mkF m 24 #[.val (.ref r0), .val (.int (0 : Int32)), .val (.int x2), .val (.int j), .val (.int g_), .val (.int (((j + g_).toUInt32 >>> ((1 : Int32) &&& 31).toUInt32).toInt32)), s6] []))
     have hlu : lo < u := by have := c13_28; rw [own_lt, hhi, hlo] at this; omega
     generalize hq_ : (((j + g_).toUInt32 >>> ((1 : Int32) &&& 31).toUInt32).toInt32) = q_
     obtain ⟨i, hi, hi1, hi2⟩ : ∃ i : Nat, q_.toInt = (i : Int) ∧ lo ≤ i ∧ i < u := by
       have a1 := c_iadd j g_
       have a2 := rng32 (j + g_)
       have a3 := c_iushr (j + g_) 1 1 (by decide) (by decide)
       rw [hq_] at a3
       have p : ((2 ^ 1 : Nat) : Int) = 2 := by decide
       rw [p] at a3
       refine ⟨q_.toInt.toNat, ?_, ?_, ?_⟩ <;> omega
     refine own_st (fun t_ => XS.aloadN (own_here Y27) hx rfl (hb hby own_d11_24) rfl rfl) ?_
     show own_Ends _ _ _ _ (T26.setTop (mkF m 25 #[.val (.ref r0), .val (.int (0 : Int32)), .val (.int x2), .val (.int j), .val (.int g_), .val (.int q_), s6] [(.ref r0)]))
     refine own_st (fun t_ => XS.iload (own_here Y27) hx rfl (hb hby own_d11_25) rfl) ?_
     show own_Ends _ _ _ _ (T26.setTop (mkF m 27 #[.val (.ref r0), .val (.int (0 : Int32)), .val (.int x2), .val (.int j), .val (.int g_), .val (.int q_), s6] [(.int q_), (.ref r0)]))
     refine own_callP Y27 hx hZ (y := (⟨"com/example/poset/poset/core/Marking", "placeAt", "(I)I"⟩ : MethodName)) hown (hw _ (List.mem_of_getElem? (i := 58) rfl)) (hw _ (List.mem_of_getElem? (i := 59) rfl)) (hw _ (List.mem_of_getElem? (i := 15) rfl)) (hw _ (List.mem_of_getElem? (i := 60) rfl)) (hw _ (List.mem_of_getElem? (i := 4) rfl)) (hw _ (List.mem_of_getElem? (i := 61) rfl)) (by decide) (a := r0) E (argsL := [(.int q_)]) (rest := []) (own_rm12 l Z a0 hw [] r0 q_ ra es ml i h0 n0  E FS FE FW A hml_ hm3 hi (by omega)) (W := 0) (by decide) (by decide) (by decide) (by decide) rfl (by rw [hml]; rfl) (lenOf own_pd0 rfl) rfl (by show 2 * 0 + _ ≤ _; exact Nat.le_of_eq rfl) (hb hby own_d11_27) (fun T29 h31 v32 Y30 q33 => ?_)
     obtain ⟨rfl, rfl⟩ := q33
     show own_Ends _ _ _ _ (T29.setTop (mkF m 30 #[.val (.ref r0), .val (.int (0 : Int32)), .val (.int x2), .val (.int j), .val (.int g_), .val (.int q_), s6] [(.int (own_pl (es.getD i 0)))]))
     refine own_st (fun t_ => XS.istoreS (own_here Y30) hx rfl (hb hby own_d11_30) rfl rfl hs6) ?_
     show own_Ends _ _ _ _ (T29.setTop (mkF m 32 #[.val (.ref r0), .val (.int (0 : Int32)), .val (.int x2), .val (.int j), .val (.int g_), .val (.int q_), .val (.int (own_pl (es.getD i 0)))] []))
     refine own_st (fun t_ => XS.iload (own_here Y30) hx rfl (hb hby own_d11_32) rfl) ?_
     show own_Ends _ _ _ _ (T29.setTop (mkF m 34 #[.val (.ref r0), .val (.int (0 : Int32)), .val (.int x2), .val (.int j), .val (.int g_), .val (.int q_), .val (.int (own_pl (es.getD i 0)))] [(.int (own_pl (es.getD i 0)))]))
     refine own_st (fun t_ => XS.iloadN (own_here Y30) hx rfl (hb hby own_d11_34) rfl) ?_
     show own_Ends _ _ _ _ (T29.setTop (mkF m 35 #[.val (.ref r0), .val (.int (0 : Int32)), .val (.int x2), .val (.int j), .val (.int g_), .val (.int q_), .val (.int (own_pl (es.getD i 0)))] [(.int x2), (.int (own_pl (es.getD i 0)))]))
     by_cases c35_34 : (own_pl (es.getD i 0)) < x2
     ·
      refine own_st (fun t_ => XS.icmpNo (own_here Y30) hx rfl (hb hby own_d11_35) rfl (XT.ii_ge_f c35_34)) ?_
      show own_Ends _ _ _ _ (T29.setTop (mkF m 38 #[.val (.ref r0), .val (.int (0 : Int32)), .val (.int x2), .val (.int j), .val (.int g_), .val (.int q_), .val (.int (own_pl (es.getD i 0)))] []))
      have hlow2 : ∀ k : Nat, k < i + 1 → (own_pl (es.getD k 0)).toInt < x2.toInt := by
        intro k hk
        have c := c35_34
        rw [own_lt] at c
        rcases Nat.lt_or_ge k i with h | h
        · have := hord k i h (by omega); omega
        · have e : k = i := by omega
          rw [e]; exact c
      refine own_st (fun t_ => XS.iload (own_here Y30) hx rfl (hb hby own_d11_38) rfl) ?_
      show own_Ends _ _ _ _ (T29.setTop (mkF m 40 #[.val (.ref r0), .val (.int (0 : Int32)), .val (.int x2), .val (.int j), .val (.int g_), .val (.int q_), .val (.int (own_pl (es.getD i 0)))] [(.int q_)]))
      refine own_st (fun t_ => XS.iconst (own_here Y30) hx rfl (hb hby own_d11_40) ) ?_
      show own_Ends _ _ _ _ (T29.setTop (mkF m 41 #[.val (.ref r0), .val (.int (0 : Int32)), .val (.int x2), .val (.int j), .val (.int g_), .val (.int q_), .val (.int (own_pl (es.getD i 0)))] [(.int (1 : Int32)), (.int q_)]))
      refine own_st (fun t_ => XS.iadd (own_here Y30) hx rfl (hb hby own_d11_41) rfl) ?_
      show own_Ends _ _ _ _ (T29.setTop (mkF m 42 #[.val (.ref r0), .val (.int (0 : Int32)), .val (.int x2), .val (.int j), .val (.int g_), .val (.int q_), .val (.int (own_pl (es.getD i 0)))] [(.int (q_ + (1 : Int32)))]))
      refine own_st (fun t_ => XS.istoreN (own_here Y30) hx rfl (hb hby own_d11_42) rfl (l' := #[.val (.ref r0), .val (.int (0 : Int32)), .val (.int x2), .val (.int (q_ + (1 : Int32))), .val (.int g_), .val (.int q_), .val (.int (own_pl (es.getD i 0)))]) rfl) ?_
      show own_Ends _ _ _ _ (T29.setTop (mkF m 43 #[.val (.ref r0), .val (.int (0 : Int32)), .val (.int x2), .val (.int (q_ + (1 : Int32))), .val (.int g_), .val (.int q_), .val (.int (own_pl (es.getD i 0)))] []))
      refine own_st (fun t_ => XS.goto (own_here Y30) hx rfl (pc0 := 43) (pc' := 64) rfl (hb hby own_d11_43) (by decide) (by decide)) ?_
      show own_Ends _ _ _ _ (T29.setTop (mkF m 64 #[.val (.ref r0), .val (.int (0 : Int32)), .val (.int x2), .val (.int (q_ + (1 : Int32))), .val (.int g_), .val (.int q_), .val (.int (own_pl (es.getD i 0)))] []))
      refine own_st (fun t_ => XS.goto (own_here Y30) hx rfl (pc0 := 64) (pc' := 10) rfl (hb hby own_d11_64) (by decide) (by decide)) ?_
      show own_Ends _ _ _ _ (T29.setTop (mkF m 10 #[.val (.ref r0), .val (.int (0 : Int32)), .val (.int x2), .val (.int (q_ + (1 : Int32))), .val (.int g_), .val (.int q_), .val (.int (own_pl (es.getD i 0)))] []))
      exact ih (u - (i + 1)) (by omega) T29  ((i + 1)) (u) ((q_ + (1 : Int32))) (g_) (.val (.int q_)) (.val (.int (own_pl (es.getD i 0)))) Y30  (own_inc hi (by omega)) hhi (by omega) (by omega) hlow2 hhigh (by omega) (One.val rfl) (One.val rfl)
     ·
      refine own_st (fun t_ => XS.icmpYes (own_here Y30) hx rfl (pc0 := 35) (pc' := 46) rfl (hb hby own_d11_35) rfl (XT.ii_ge_t c35_34) (by decide) (by decide)) ?_
      show own_Ends _ _ _ _ (T29.setTop (mkF m 46 #[.val (.ref r0), .val (.int (0 : Int32)), .val (.int x2), .val (.int j), .val (.int g_), .val (.int q_), .val (.int (own_pl (es.getD i 0)))] []))
      refine own_st (fun t_ => XS.iload (own_here Y30) hx rfl (hb hby own_d11_46) rfl) ?_
      show own_Ends _ _ _ _ (T29.setTop (mkF m 48 #[.val (.ref r0), .val (.int (0 : Int32)), .val (.int x2), .val (.int j), .val (.int g_), .val (.int q_), .val (.int (own_pl (es.getD i 0)))] [(.int (own_pl (es.getD i 0)))]))
      refine own_st (fun t_ => XS.iloadN (own_here Y30) hx rfl (hb hby own_d11_48) rfl) ?_
      show own_Ends _ _ _ _ (T29.setTop (mkF m 49 #[.val (.ref r0), .val (.int (0 : Int32)), .val (.int x2), .val (.int j), .val (.int g_), .val (.int q_), .val (.int (own_pl (es.getD i 0)))] [(.int x2), (.int (own_pl (es.getD i 0)))]))
      by_cases c49_35 : x2 < (own_pl (es.getD i 0))
      ·
       refine own_st (fun t_ => XS.icmpNo (own_here Y30) hx rfl (hb hby own_d11_49) rfl (XT.ii_le_f c49_35)) ?_
       show own_Ends _ _ _ _ (T29.setTop (mkF m 52 #[.val (.ref r0), .val (.int (0 : Int32)), .val (.int x2), .val (.int j), .val (.int g_), .val (.int q_), .val (.int (own_pl (es.getD i 0)))] []))
       have hhigh2 : ∀ k : Nat, i ≤ k → k < es.length → x2.toInt < (own_pl (es.getD k 0)).toInt := by
         intro k h1 h2
         have c := c49_35
         rw [own_lt] at c
         rcases Nat.lt_or_ge i k with h | h
         · have := hord i k h h2; omega
         · have e : k = i := by omega
           rw [e]; exact c
       refine own_st (fun t_ => XS.iload (own_here Y30) hx rfl (hb hby own_d11_52) rfl) ?_
       show own_Ends _ _ _ _ (T29.setTop (mkF m 54 #[.val (.ref r0), .val (.int (0 : Int32)), .val (.int x2), .val (.int j), .val (.int g_), .val (.int q_), .val (.int (own_pl (es.getD i 0)))] [(.int q_)]))
       refine own_st (fun t_ => XS.iconst (own_here Y30) hx rfl (hb hby own_d11_54) ) ?_
       show own_Ends _ _ _ _ (T29.setTop (mkF m 55 #[.val (.ref r0), .val (.int (0 : Int32)), .val (.int x2), .val (.int j), .val (.int g_), .val (.int q_), .val (.int (own_pl (es.getD i 0)))] [(.int (1 : Int32)), (.int q_)]))
       refine own_st (fun t_ => XS.isub (own_here Y30) hx rfl (hb hby own_d11_55) rfl) ?_
       show own_Ends _ _ _ _ (T29.setTop (mkF m 56 #[.val (.ref r0), .val (.int (0 : Int32)), .val (.int x2), .val (.int j), .val (.int g_), .val (.int q_), .val (.int (own_pl (es.getD i 0)))] [(.int (q_ - (1 : Int32)))]))
       refine own_st (fun t_ => XS.istore (own_here Y30) hx rfl (hb hby own_d11_56) rfl (l' := #[.val (.ref r0), .val (.int (0 : Int32)), .val (.int x2), .val (.int j), .val (.int (q_ - (1 : Int32))), .val (.int q_), .val (.int (own_pl (es.getD i 0)))]) rfl) ?_
       show own_Ends _ _ _ _ (T29.setTop (mkF m 58 #[.val (.ref r0), .val (.int (0 : Int32)), .val (.int x2), .val (.int j), .val (.int (q_ - (1 : Int32))), .val (.int q_), .val (.int (own_pl (es.getD i 0)))] []))
       refine own_st (fun t_ => XS.goto (own_here Y30) hx rfl (pc0 := 58) (pc' := 64) rfl (hb hby own_d11_58) (by decide) (by decide)) ?_
       show own_Ends _ _ _ _ (T29.setTop (mkF m 64 #[.val (.ref r0), .val (.int (0 : Int32)), .val (.int x2), .val (.int j), .val (.int (q_ - (1 : Int32))), .val (.int q_), .val (.int (own_pl (es.getD i 0)))] []))
       refine own_st (fun t_ => XS.goto (own_here Y30) hx rfl (pc0 := 64) (pc' := 10) rfl (hb hby own_d11_64) (by decide) (by decide)) ?_
       show own_Ends _ _ _ _ (T29.setTop (mkF m 10 #[.val (.ref r0), .val (.int (0 : Int32)), .val (.int x2), .val (.int j), .val (.int (q_ - (1 : Int32))), .val (.int q_), .val (.int (own_pl (es.getD i 0)))] []))
       exact ih (i - lo) (by omega) T29  (lo) (i) (j) ((q_ - (1 : Int32))) (.val (.int q_)) (.val (.int (own_pl (es.getD i 0)))) Y30  hlo (by have q := own_sub hi own_l1; rw [q]; omega) (by omega) (by omega) hlow hhigh2 (by omega) (One.val rfl) (One.val rfl)
      ·
       refine own_st (fun t_ => XS.icmpYes (own_here Y30) hx rfl (pc0 := 49) (pc' := 61) rfl (hb hby own_d11_49) rfl (XT.ii_le_t c49_35) (by decide) (by decide)) ?_
       show own_Ends _ _ _ _ (T29.setTop (mkF m 61 #[.val (.ref r0), .val (.int (0 : Int32)), .val (.int x2), .val (.int j), .val (.int g_), .val (.int q_), .val (.int (own_pl (es.getD i 0)))] []))
       refine own_st (fun t_ => XS.iload (own_here Y30) hx rfl (hb hby own_d11_61) rfl) ?_
       show own_Ends _ _ _ _ (T29.setTop (mkF m 63 #[.val (.ref r0), .val (.int (0 : Int32)), .val (.int x2), .val (.int j), .val (.int g_), .val (.int q_), .val (.int (own_pl (es.getD i 0)))] [(.int q_)]))
       refine own_retI Y30 hx hlk hret (hb hby own_d11_63) (by decide) (by decide) ?_
       refine ⟨_, rfl, rfl, Or.inl ⟨i, by omega, ?_, hi⟩⟩
       have c1 := c35_34; have c2 := c49_35; rw [own_lt] at c1 c2; rw [own_eq]; omega
  exact hL25 es.length T20  (0) (es.length) (0) ((ml - (1 : Int32))) (.unset) (.unset) Y21  rfl ehi (Nat.zero_le _) (Nat.le_refl _) (fun k hk => absurd hk (Nat.not_lt_zero k)) (fun k h1 h2 => absurd h2 (by omega)) (by omega) One.u One.u
theorem own_pn1 : plainName "jdk/internal/util/Preconditions" = true := by first | (simp [plainName, overriddenIn]; done) | decide +kernel
theorem own_d10_0 : decode jdk_41_method_11_code 0 = .ok (.iload_n 0, 1) := by decide +kernel
theorem own_d10_1 : decode jdk_41_method_11_code 1 = .ok (.ifCond .lt 8, 3) := by decide +kernel
theorem own_d10_4 : decode jdk_41_method_11_code 4 = .ok (.iload_n 0, 1) := by decide +kernel
theorem own_d10_5 : decode jdk_41_method_11_code 5 = .ok (.iload_n 1, 1) := by decide +kernel
theorem own_d10_6 : decode jdk_41_method_11_code 6 = .ok (.if_icmp .lt 10, 3) := by decide +kernel
theorem own_d10_16 : decode jdk_41_method_11_code 16 = .ok (.iload_n 0, 1) := by decide +kernel
theorem own_d10_17 : decode jdk_41_method_11_code 17 = .ok (.ireturn, 1) := by decide +kernel
theorem own_ef_own_rm10 (m : MethodId) (x0 : Int32) (x1 : Int32) : entryFrame m #[(.int x0), (.int x1), .null] 3 = mkF m 0 #[.val (.int x0), .val (.int x1), .val .null] [] := by first | (simp [entryFrame, mkF, argsToLocals, Value.category]; done) | rfl
def own_Q_own_rm10 (Z : State) (x0 : Int32) (x1 : Int32) (h0 : Heap) (n0 : Nat) (v : Option Value) (h : Heap) : Prop := v = some (.int x0) ∧ h0 = h
set_option maxRecDepth 65536 in
set_option maxHeartbeats 40000000 in
theorem own_rm10 (l : Launch) (Z : State) (a0 : Array Value) (hw : ∀ d ∈ tables_1, d.before a0 Z = true) (ws : List Jvm.Cond) (x0 : Int32) (x1 : Int32)  (h0 : Heap) (n0 : Nat)  (c1 : ¬ x0 < 0) (c2 : x0 < x1) :
    own_Con l Z (⟨"jdk/internal/util/Preconditions", "checkIndex", "(IILjava/util/function/BiFunction;)I"⟩ : MethodName) jdk_41_method_11_code 3 (some .int) ws ({ frames := 0, cells := 0, slots := 0, locals := 0 } : Room) #[(.int x0), (.int x1), .null] h0 n0 (own_Q_own_rm10 Z x0 x1 h0 n0) := by
  refine own_body (plainFor_of_name own_pn1) ?_
  intro p e s m below meth c T0 hx hZ hby hml hown hnm hret hlk Y0
  replace hown : s.vm.findClass "jdk/internal/util/Preconditions" = some m.cls := hown
  replace hnm : meth.name = "checkIndex" := hnm
  rw [own_ef_own_rm10 m x0 x1]
  show own_Ends _ _ _ _ (T0.setTop (mkF m 0 #[.val (.int x0), .val (.int x1), .val .null] []))
  refine own_st (fun t_ => XS.iloadN (own_here Y0) hx rfl (hb hby own_d10_0) rfl) ?_
  show own_Ends _ _ _ _ (T0.setTop (mkF m 1 #[.val (.int x0), .val (.int x1), .val .null] [(.int x0)]))
  refine own_st (fun t_ => XS.ifNo (own_here Y0) hx rfl (hb hby own_d10_1) rfl (XT.i0_lt_f c1)) ?_
  show own_Ends _ _ _ _ (T0.setTop (mkF m 4 #[.val (.int x0), .val (.int x1), .val .null] []))
  refine own_st (fun t_ => XS.iloadN (own_here Y0) hx rfl (hb hby own_d10_4) rfl) ?_
  show own_Ends _ _ _ _ (T0.setTop (mkF m 5 #[.val (.int x0), .val (.int x1), .val .null] [(.int x0)]))
  refine own_st (fun t_ => XS.iloadN (own_here Y0) hx rfl (hb hby own_d10_5) rfl) ?_
  show own_Ends _ _ _ _ (T0.setTop (mkF m 6 #[.val (.int x0), .val (.int x1), .val .null] [(.int x1), (.int x0)]))
  refine own_st (fun t_ => XS.icmpYes (own_here Y0) hx rfl (pc0 := 6) (pc' := 16) rfl (hb hby own_d10_6) rfl (XT.ii_lt_t c2) (by decide) (by decide)) ?_
  show own_Ends _ _ _ _ (T0.setTop (mkF m 16 #[.val (.int x0), .val (.int x1), .val .null] []))
  refine own_st (fun t_ => XS.iloadN (own_here Y0) hx rfl (hb hby own_d10_16) rfl) ?_
  show own_Ends _ _ _ _ (T0.setTop (mkF m 17 #[.val (.int x0), .val (.int x1), .val .null] [(.int x0)]))
  refine own_retI Y0 hx hlk hret (hb hby own_d10_17) (by decide) (by decide) ?_
  exact ⟨rfl, rfl⟩
theorem own_pn2 : plainName "java/util/Objects" = true := by first | (simp [plainName, overriddenIn]; done) | decide +kernel
theorem own_pd2 : parseMethodDescriptor "(IILjava/util/function/BiFunction;)I" = some ⟨[.int, .int, (.object "java/util/function/BiFunction")], some .int⟩ := by decide +kernel
theorem own_d9_0 : decode jdk_31_method_17_code 0 = .ok (.iload_n 0, 1) := by decide +kernel
theorem own_d9_1 : decode jdk_31_method_17_code 1 = .ok (.iload_n 1, 1) := by decide +kernel
theorem own_d9_2 : decode jdk_31_method_17_code 2 = .ok (.aconst_null, 1) := by decide +kernel
theorem own_d9_3 : decode jdk_31_method_17_code 3 = .ok (.invokestatic 105, 3) := by decide +kernel
theorem own_d9_6 : decode jdk_31_method_17_code 6 = .ok (.ireturn, 1) := by decide +kernel
theorem own_ef_own_rm9 (m : MethodId) (x0 : Int32) (x1 : Int32) : entryFrame m #[(.int x0), (.int x1)] 2 = mkF m 0 #[.val (.int x0), .val (.int x1)] [] := by first | (simp [entryFrame, mkF, argsToLocals, Value.category]; done) | rfl
def own_Q_own_rm9 (Z : State) (x0 : Int32) (x1 : Int32) (h0 : Heap) (n0 : Nat) (v : Option Value) (h : Heap) : Prop := v = some (.int x0) ∧ h0 = h
set_option maxRecDepth 65536 in
set_option maxHeartbeats 40000000 in
theorem own_rm9 (l : Launch) (Z : State) (a0 : Array Value) (hw : ∀ d ∈ tables_1, d.before a0 Z = true) (ws : List Jvm.Cond) (x0 : Int32) (x1 : Int32)  (h0 : Heap) (n0 : Nat)  (c1 : ¬ x0 < 0) (c2 : x0 < x1) :
    own_Con l Z (⟨"java/util/Objects", "checkIndex", "(II)I"⟩ : MethodName) jdk_31_method_17_code 2 (some .int) ws ({ frames := 1, cells := 0, slots := 0, locals := 14 } : Room) #[(.int x0), (.int x1)] h0 n0 (own_Q_own_rm9 Z x0 x1 h0 n0) := by
  refine own_body (plainFor_of_name own_pn2) ?_
  intro p e s m below meth c T0 hx hZ hby hml hown hnm hret hlk Y0
  replace hown : s.vm.findClass "java/util/Objects" = some m.cls := hown
  replace hnm : meth.name = "checkIndex" := hnm
  rw [own_ef_own_rm9 m x0 x1]
  show own_Ends _ _ _ _ (T0.setTop (mkF m 0 #[.val (.int x0), .val (.int x1)] []))
  refine own_st (fun t_ => XS.iloadN (own_here Y0) hx rfl (hb hby own_d9_0) rfl) ?_
  show own_Ends _ _ _ _ (T0.setTop (mkF m 1 #[.val (.int x0), .val (.int x1)] [(.int x0)]))
  refine own_st (fun t_ => XS.iloadN (own_here Y0) hx rfl (hb hby own_d9_1) rfl) ?_
  show own_Ends _ _ _ _ (T0.setTop (mkF m 2 #[.val (.int x0), .val (.int x1)] [(.int x1), (.int x0)]))
  refine own_st (fun t_ => XS.aconstNull (own_here Y0) hx rfl (hb hby own_d9_2) ) ?_
  show own_Ends _ _ _ _ (T0.setTop (mkF m 3 #[.val (.int x0), .val (.int x1)] [.null, (.int x1), (.int x0)]))
  refine own_callS Y0 hx hZ (y := (⟨"jdk/internal/util/Preconditions", "checkIndex", "(IILjava/util/function/BiFunction;)I"⟩ : MethodName)) hown (hw _ (List.mem_of_getElem? (i := 49) rfl)) (hw _ (List.mem_of_getElem? (i := 50) rfl)) (hw _ (List.mem_of_getElem? (i := 51) rfl)) (hw _ (List.mem_of_getElem? (i := 52) rfl)) (by decide) (argsL := [(.int x0), (.int x1), .null]) (rest := []) (own_rm10 l Z a0 hw [] x0 x1  h0 n0  c1 c2) (W := 0) (by decide) (by decide) (by decide) (by decide) rfl (by rw [hml]; rfl) (lenOf own_pd2 rfl) rfl (by show 2 * 0 + _ ≤ _; exact Nat.le_of_eq rfl) (hb hby own_d9_3) (fun T36 h38 v39 Y37 q40 => ?_)
  obtain ⟨rfl, rfl⟩ := q40
  show own_Ends _ _ _ _ (T36.setTop (mkF m 6 #[.val (.int x0), .val (.int x1)] [(.int x0)]))
  refine own_retI Y37 hx hlk hret (hb hby own_d9_6) (by decide) (by decide) ?_
  exact ⟨rfl, rfl⟩
theorem own_pd3 : parseMethodDescriptor "(II)I" = some ⟨[.int, .int], some .int⟩ := by decide +kernel
theorem own_pd4 : parseMethodDescriptor "(I)J" = some ⟨[.int], some .long⟩ := by decide +kernel
theorem own_d8_0 : decode prog_47_method_5_code 0 = .ok (.iload_n 1, 1) := by decide +kernel
theorem own_d8_1 : decode prog_47_method_5_code 1 = .ok (.aload_n 0, 1) := by decide +kernel
theorem own_d8_2 : decode prog_47_method_5_code 2 = .ok (.getfield 7, 3) := by decide +kernel
theorem own_d8_5 : decode prog_47_method_5_code 5 = .ok (.invokestatic 63, 3) := by decide +kernel
theorem own_d8_8 : decode prog_47_method_5_code 8 = .ok (.pop, 1) := by decide +kernel
theorem own_d8_9 : decode prog_47_method_5_code 9 = .ok (.aload_n 0, 1) := by decide +kernel
theorem own_d8_10 : decode prog_47_method_5_code 10 = .ok (.iconst 0, 1) := by decide +kernel
theorem own_d8_11 : decode prog_47_method_5_code 11 = .ok (.iload_n 1, 1) := by decide +kernel
theorem own_d8_12 : decode prog_47_method_5_code 12 = .ok (.invokevirtual 40, 3) := by decide +kernel
theorem own_d8_15 : decode prog_47_method_5_code 15 = .ok (.istore_n 2, 1) := by decide +kernel
theorem own_d8_16 : decode prog_47_method_5_code 16 = .ok (.iload_n 2, 1) := by decide +kernel
theorem own_d8_17 : decode prog_47_method_5_code 17 = .ok (.ifCond .lt 11, 3) := by decide +kernel
theorem own_d8_28 : decode prog_47_method_5_code 28 = .ok (.lconst 0, 1) := by decide +kernel
theorem own_d8_29 : decode prog_47_method_5_code 29 = .ok (.lreturn, 1) := by decide +kernel
theorem own_d8_20 : decode prog_47_method_5_code 20 = .ok (.aload_n 0, 1) := by decide +kernel
theorem own_d8_21 : decode prog_47_method_5_code 21 = .ok (.iload_n 2, 1) := by decide +kernel
theorem own_d8_22 : decode prog_47_method_5_code 22 = .ok (.invokevirtual 44, 3) := by decide +kernel
theorem own_d8_25 : decode prog_47_method_5_code 25 = .ok (.goto 4, 3) := by decide +kernel
theorem own_ef_own_rm8 (m : MethodId) (r0 : Addr) (x1 : Int32) : entryFrame m #[(.ref r0), (.int x1)] 3 = mkF m 0 #[.val (.ref r0), .val (.int x1), .unset] [] := by first | (simp [entryFrame, mkF, argsToLocals, Value.category]; done) | rfl
def own_Q_own_rm8 (Z : State) (x1 : Int32) (es : List Int64) (h0 : Heap) (n0 : Nat) (v : Option Value) (h : Heap) : Prop := ∃ r : Int64, v = some (.long r) ∧ h0 = h ∧ ((∃ k : Nat, k < es.length ∧ own_pl (es.getD k 0) = x1 ∧ r = own_cn (es.getD k 0)) ∨ (r = 0 ∧ ∀ k : Nat, k < es.length → ¬ own_pl (es.getD k 0) = x1))
set_option maxRecDepth 65536 in
set_option maxHeartbeats 40000000 in
theorem own_rm8 (l : Launch) (Z : State) (a0 : Array Value) (hw : ∀ d ∈ tables_1, d.before a0 Z = true) (ws : List Jvm.Cond) (r0 : Addr) (x1 : Int32) (ra : Addr) (es : List Int64) (ml : Int32) (h0 : Heap) (n0 : Nat)  (E : Exa Z h0 r0 "com/example/poset/poset/core/Marking") (FS : Fld Z h0 r0 "com/example/poset/poset/core/Marking" "size" "I" (.int 3)) (FE : Fld Z h0 r0 "com/example/poset/poset/core/Marking" "entries" "[J" (.ref ra)) (FW : Fld Z h0 r0 "com/example/poset/poset/core/Marking" "wide" "Z" (.int 0)) (A : own_A Z h0 ra .long (es.map Value.long)) (hml_ : ml.toInt = (es.length : Int)) (hm3 : es.length ≤ 3) (hord : own_ord es) (c1 : ¬ x1 < 0) (c2 : x1 < 3) :
    own_Con l Z (⟨"com/example/poset/poset/core/Marking", "tokens", "(I)J"⟩ : MethodName) prog_47_method_5_code 3 (some .long) ws ({ frames := 2, cells := 0, slots := 0, locals := 31 } : Room) #[(.ref r0), (.int x1)] h0 n0 (own_Q_own_rm8 Z x1 es h0 n0) := by
  refine own_body (plainFor_of_name own_pn0) ?_
  intro p e s m below meth c T0 hx hZ hby hml hown hnm hret hlk Y0
  replace hown : s.vm.findClass "com/example/poset/poset/core/Marking" = some m.cls := hown
  replace hnm : meth.name = "tokens" := hnm
  rw [own_ef_own_rm8 m r0 x1]
  show own_Ends _ _ _ _ (T0.setTop (mkF m 0 #[.val (.ref r0), .val (.int x1), .unset] []))
  refine own_st (fun t_ => XS.iloadN (own_here Y0) hx rfl (hb hby own_d8_0) rfl) ?_
  show own_Ends _ _ _ _ (T0.setTop (mkF m 1 #[.val (.ref r0), .val (.int x1), .unset] [(.int x1)]))
  refine own_st (fun t_ => XS.aloadN (own_here Y0) hx rfl (hb hby own_d8_1) rfl rfl) ?_
  show own_Ends _ _ _ _ (T0.setTop (mkF m 2 #[.val (.ref r0), .val (.int x1), .unset] [(.ref r0), (.int x1)]))
  refine own_getF Y0 hx hZ hown (host := "") (Or.inl (hw _ (List.mem_of_getElem? (i := 22) rfl))) Via.refl FS rfl rfl (hb hby own_d8_2) (fun T41 Y42 => ?_)
  show own_Ends _ _ _ _ (T41.setTop (mkF m 5 #[.val (.ref r0), .val (.int x1), .unset] [(.int (3 : Int32)), (.int x1)]))
  refine own_callS Y42 hx hZ (y := (⟨"java/util/Objects", "checkIndex", "(II)I"⟩ : MethodName)) hown (hw _ (List.mem_of_getElem? (i := 45) rfl)) (hw _ (List.mem_of_getElem? (i := 46) rfl)) (hw _ (List.mem_of_getElem? (i := 47) rfl)) (hw _ (List.mem_of_getElem? (i := 48) rfl)) (by decide) (argsL := [(.int x1), (.int (3 : Int32))]) (rest := []) (own_rm9 l Z a0 hw [] x1 (3 : Int32)  h0 n0  c1 c2) (W := 0) (by decide) (by decide) (by decide) (by decide) rfl (by rw [hml]; rfl) (lenOf own_pd3 rfl) rfl (by show 2 * 0 + _ ≤ _; exact Nat.le_of_eq rfl) (hb hby own_d8_5) (fun T43 h45 v46 Y44 q47 => ?_)
  obtain ⟨rfl, rfl⟩ := q47
  show own_Ends _ _ _ _ (T43.setTop (mkF m 8 #[.val (.ref r0), .val (.int x1), .unset] [(.int x1)]))
  refine own_st (fun t_ => XS.pop (own_here Y44) hx rfl (hb hby own_d8_8) rfl rfl) ?_
  show own_Ends _ _ _ _ (T43.setTop (mkF m 9 #[.val (.ref r0), .val (.int x1), .unset] []))
  refine own_st (fun t_ => XS.aloadN (own_here Y44) hx rfl (hb hby own_d8_9) rfl rfl) ?_
  show own_Ends _ _ _ _ (T43.setTop (mkF m 10 #[.val (.ref r0), .val (.int x1), .unset] [(.ref r0)]))
  refine own_st (fun t_ => XS.iconst (own_here Y44) hx rfl (hb hby own_d8_10) ) ?_
  show own_Ends _ _ _ _ (T43.setTop (mkF m 11 #[.val (.ref r0), .val (.int x1), .unset] [(.int (0 : Int32)), (.ref r0)]))
  refine own_st (fun t_ => XS.iloadN (own_here Y44) hx rfl (hb hby own_d8_11) rfl) ?_
  show own_Ends _ _ _ _ (T43.setTop (mkF m 12 #[.val (.ref r0), .val (.int x1), .unset] [(.int x1), (.int (0 : Int32)), (.ref r0)]))
  refine own_callP Y44 hx hZ (y := (⟨"com/example/poset/poset/core/Marking", "find", "(II)I"⟩ : MethodName)) hown (hw _ (List.mem_of_getElem? (i := 53) rfl)) (hw _ (List.mem_of_getElem? (i := 54) rfl)) (hw _ (List.mem_of_getElem? (i := 15) rfl)) (hw _ (List.mem_of_getElem? (i := 55) rfl)) (hw _ (List.mem_of_getElem? (i := 4) rfl)) (hw _ (List.mem_of_getElem? (i := 56) rfl)) (by decide) (a := r0) E (argsL := [(.int (0 : Int32)), (.int x1)]) (rest := []) (own_rm11 l Z a0 hw [] r0 x1 ra es ml h0 n0  E FS FE FW A hml_ hm3 hord) (W := 0) (by decide) (by decide) (by decide) (by decide) rfl (by rw [hml]; rfl) (lenOf own_pd3 rfl) rfl (by show 2 * 0 + _ ≤ _; exact Nat.le_of_eq rfl) (hb hby own_d8_12) (fun T48 h50 v51 Y49 q52 => ?_)
  obtain ⟨r53, rfl, rfl, H54⟩ := q52
  show own_Ends _ _ _ _ (T48.setTop (mkF m 15 #[.val (.ref r0), .val (.int x1), .unset] [(.int r53)]))
  refine own_st (fun t_ => XS.istoreN (own_here Y49) hx rfl (hb hby own_d8_15) rfl (l' := #[.val (.ref r0), .val (.int x1), .val (.int r53)]) rfl) ?_
  show own_Ends _ _ _ _ (T48.setTop (mkF m 16 #[.val (.ref r0), .val (.int x1), .val (.int r53)] []))
  refine own_st (fun t_ => XS.iloadN (own_here Y49) hx rfl (hb hby own_d8_16) rfl) ?_
  show own_Ends _ _ _ _ (T48.setTop (mkF m 17 #[.val (.ref r0), .val (.int x1), .val (.int r53)] [(.int r53)]))
  by_cases c17_55 : r53 < (0 : Int32)
  ·
   refine own_st (fun t_ => XS.ifYes (own_here Y49) hx rfl (pc0 := 17) (pc' := 28) rfl (hb hby own_d8_17) rfl (XT.i0_lt_t c17_55) (by decide) (by decide)) ?_
   show own_Ends _ _ _ _ (T48.setTop (mkF m 28 #[.val (.ref r0), .val (.int x1), .val (.int r53)] []))
   have hno : ∀ k : Nat, k < es.length → ¬ own_pl (es.getD k 0) = x1 := by
     rcases H54 with ⟨k, hk, -, hrk⟩ | q
     · have := c17_55; rw [own_lt, hrk] at this; exact absurd (show (k : Int) < 0 from this) (by omega)
     · exact q.2
   refine own_st (fun t_ => XS.lconst (own_here Y49) hx rfl (hb hby own_d8_28) ) ?_
   show own_Ends _ _ _ _ (T48.setTop (mkF m 29 #[.val (.ref r0), .val (.int x1), .val (.int r53)] [(.long (0 : Int64))]))
   refine own_retJ Y49 hx hlk hret (hb hby own_d8_29) (by decide) (by decide) ?_
   exact ⟨_, rfl, rfl, Or.inr ⟨rfl, hno⟩⟩
  ·
   refine own_st (fun t_ => XS.ifNo (own_here Y49) hx rfl (hb hby own_d8_17) rfl (XT.i0_lt_f c17_55)) ?_
   show own_Ends _ _ _ _ (T48.setTop (mkF m 20 #[.val (.ref r0), .val (.int x1), .val (.int r53)] []))
   obtain ⟨k, hk, hpk, hrk⟩ : ∃ k : Nat, k < es.length ∧ own_pl (es.getD k 0) = x1 ∧ r53.toInt = (k : Int) := by
     rcases H54 with q | q
     · exact q
     · exact absurd q.1 c17_55
   refine own_st (fun t_ => XS.aloadN (own_here Y49) hx rfl (hb hby own_d8_20) rfl rfl) ?_
   show own_Ends _ _ _ _ (T48.setTop (mkF m 21 #[.val (.ref r0), .val (.int x1), .val (.int r53)] [(.ref r0)]))
   refine own_st (fun t_ => XS.iloadN (own_here Y49) hx rfl (hb hby own_d8_21) rfl) ?_
   show own_Ends _ _ _ _ (T48.setTop (mkF m 22 #[.val (.ref r0), .val (.int x1), .val (.int r53)] [(.int r53), (.ref r0)]))
   refine own_callP Y49 hx hZ (y := (⟨"com/example/poset/poset/core/Marking", "countAt", "(I)J"⟩ : MethodName)) hown (hw _ (List.mem_of_getElem? (i := 62) rfl)) (hw _ (List.mem_of_getElem? (i := 63) rfl)) (hw _ (List.mem_of_getElem? (i := 15) rfl)) (hw _ (List.mem_of_getElem? (i := 64) rfl)) (hw _ (List.mem_of_getElem? (i := 4) rfl)) (hw _ (List.mem_of_getElem? (i := 65) rfl)) (by decide) (a := r0) E (argsL := [(.int r53)]) (rest := []) (own_rm13 l Z a0 hw [] r0 r53 ra es ml k h0 n0  E FS FE FW A hml_ hm3 hrk (by omega)) (W := 0) (by decide) (by decide) (by decide) (by decide) rfl (by rw [hml]; rfl) (lenOf own_pd4 rfl) rfl (by show 2 * 0 + _ ≤ _; exact Nat.le_of_eq rfl) (hb hby own_d8_22) (fun T56 h58 v59 Y57 q60 => ?_)
   obtain ⟨rfl, rfl⟩ := q60
   show own_Ends _ _ _ _ (T56.setTop (mkF m 25 #[.val (.ref r0), .val (.int x1), .val (.int r53)] [(.long (own_cn (es.getD k 0)))]))
   refine own_st (fun t_ => XS.goto (own_here Y57) hx rfl (pc0 := 25) (pc' := 29) rfl (hb hby own_d8_25) (by decide) (by decide)) ?_
   show own_Ends _ _ _ _ (T56.setTop (mkF m 29 #[.val (.ref r0), .val (.int x1), .val (.int r53)] [(.long (own_cn (es.getD k 0)))]))
   refine own_retJ Y57 hx hlk hret (hb hby own_d8_29) (by decide) (by decide) ?_
   exact ⟨_, rfl, rfl, Or.inl ⟨k, hk, hpk, rfl⟩⟩
theorem own_d4_0 : decode prog_47_method_1_code 0 = .ok (.aload_n 0, 1) := by decide +kernel
theorem own_d4_1 : decode prog_47_method_1_code 1 = .ok (.invokespecial 1, 3) := by decide +kernel
theorem own_d4_4 : decode prog_47_method_1_code 4 = .ok (.aload_n 0, 1) := by decide +kernel
theorem own_d4_5 : decode prog_47_method_1_code 5 = .ok (.iload_n 1, 1) := by decide +kernel
theorem own_d4_6 : decode prog_47_method_1_code 6 = .ok (.putfield 7, 3) := by decide +kernel
theorem own_d4_9 : decode prog_47_method_1_code 9 = .ok (.aload_n 0, 1) := by decide +kernel
theorem own_d4_10 : decode prog_47_method_1_code 10 = .ok (.aload_n 2, 1) := by decide +kernel
theorem own_d4_11 : decode prog_47_method_1_code 11 = .ok (.putfield 13, 3) := by decide +kernel
theorem own_d4_14 : decode prog_47_method_1_code 14 = .ok (.aload_n 0, 1) := by decide +kernel
theorem own_d4_15 : decode prog_47_method_1_code 15 = .ok (.iload_n 3, 1) := by decide +kernel
theorem own_d4_16 : decode prog_47_method_1_code 16 = .ok (.putfield 17, 3) := by decide +kernel
theorem own_d4_19 : decode prog_47_method_1_code 19 = .ok (.aload_n 0, 1) := by decide +kernel
theorem own_d4_20 : decode prog_47_method_1_code 20 = .ok (.lload 4, 2) := by decide +kernel
theorem own_d4_22 : decode prog_47_method_1_code 22 = .ok (.putfield 21, 3) := by decide +kernel
theorem own_d4_25 : decode prog_47_method_1_code 25 = .ok (.return_, 1) := by decide +kernel
theorem own_ef_own_rm4 (m : MethodId) (r0 : Addr) (x1 : Int32) (r2 : Addr) (x4 : Int64) : entryFrame m #[(.ref r0), (.int x1), (.ref r2), (.int (0 : Int32)), (.long x4)] 6 = mkF m 0 #[.val (.ref r0), .val (.int x1), .val (.ref r2), .val (.int (0 : Int32)), .val (.long x4), .second] [] := by first | (simp [entryFrame, mkF, argsToLocals, Value.category]; done) | rfl
def own_Q_own_rm4 (Z : State) (r0 : Addr) (x1 : Int32) (r2 : Addr) (x4 : Int64) (h0 : Heap) (n0 : Nat) (v : Option Value) (h : Heap) : Prop := v = none ∧ Keep h0 h [r0] ∧ Fld Z h r0 "com/example/poset/poset/core/Marking" "size" "I" (.int x1) ∧ Fld Z h r0 "com/example/poset/poset/core/Marking" "entries" "[J" (.ref r2) ∧ Fld Z h r0 "com/example/poset/poset/core/Marking" "wide" "Z" (.int 0)
set_option maxRecDepth 65536 in
set_option maxHeartbeats 40000000 in
theorem own_rm4 (l : Launch) (Z : State) (a0 : Array Value) (hw : ∀ d ∈ tables_1, d.before a0 Z = true) (ws : List Jvm.Cond) (r0 : Addr) (x1 : Int32) (r2 : Addr) (x4 : Int64)  (h0 : Heap) (n0 : Nat)  (E : Exa Z h0 r0 "com/example/poset/poset/core/Marking") (Fsize : Fld Z h0 r0 "com/example/poset/poset/core/Marking" "size" "I" (.int (0 : Int32))) (Fentries : Fld Z h0 r0 "com/example/poset/poset/core/Marking" "entries" "[J" .null) (Fwide : Fld Z h0 r0 "com/example/poset/poset/core/Marking" "wide" "Z" (.int (0 : Int32))) (Fmixed : Fld Z h0 r0 "com/example/poset/poset/core/Marking" "mixed" "J" (.long (0 : Int64))) (g : n0 ≤ r0) :
    own_Con l Z (⟨"com/example/poset/poset/core/Marking", "<init>", "(I[JZJ)V"⟩ : MethodName) prog_47_method_1_code 6 none ws ({ frames := 1, cells := 0, slots := 0, locals := 12 } : Room) #[(.ref r0), (.int x1), (.ref r2), (.int (0 : Int32)), (.long x4)] h0 n0 (own_Q_own_rm4 Z r0 x1 r2 x4 h0 n0) := by
  refine own_body (plainFor_of_name own_pn0) ?_
  intro p e s m below meth c T0 hx hZ hby hml hown hnm hret hlk Y0
  replace hown : s.vm.findClass "com/example/poset/poset/core/Marking" = some m.cls := hown
  replace hnm : meth.name = "<init>" := hnm
  rw [own_ef_own_rm4 m r0 x1 r2 x4]
  show own_Ends _ _ _ _ (T0.setTop (mkF m 0 #[.val (.ref r0), .val (.int x1), .val (.ref r2), .val (.int (0 : Int32)), .val (.long x4), .second] []))
  refine own_st (fun t_ => XS.aloadN (own_here Y0) hx rfl (hb hby own_d4_0) rfl rfl) ?_
  show own_Ends _ _ _ _ (T0.setTop (mkF m 1 #[.val (.ref r0), .val (.int x1), .val (.ref r2), .val (.int (0 : Int32)), .val (.long x4), .second] [(.ref r0)]))
  refine own_initO Y0 hx hZ hown (hw _ (List.mem_of_getElem? (i := 19) rfl)) (hw _ (List.mem_of_getElem? (i := 20) rfl)) (hw _ (List.mem_of_getElem? (i := 21) rfl)) rfl (by rw [hml]; rfl) rfl (hb hby own_d4_1) (by decide) (W := 0) (by show 2 * 0 + _ ≤ _; exact Nat.le_of_eq rfl) (by decide) (fun T61 Y62 => ?_)
  show own_Ends _ _ _ _ (T61.setTop (mkF m 4 #[.val (.ref r0), .val (.int x1), .val (.ref r2), .val (.int (0 : Int32)), .val (.long x4), .second] []))
  refine own_st (fun t_ => XS.aloadN (own_here Y62) hx rfl (hb hby own_d4_4) rfl rfl) ?_
  show own_Ends _ _ _ _ (T61.setTop (mkF m 5 #[.val (.ref r0), .val (.int x1), .val (.ref r2), .val (.int (0 : Int32)), .val (.long x4), .second] [(.ref r0)]))
  refine own_st (fun t_ => XS.iloadN (own_here Y62) hx rfl (hb hby own_d4_5) rfl) ?_
  show own_Ends _ _ _ _ (T61.setTop (mkF m 6 #[.val (.ref r0), .val (.int x1), .val (.ref r2), .val (.int (0 : Int32)), .val (.long x4), .second] [(.int x1), (.ref r0)]))
  refine own_putF Y62 hx hZ hown (host := "") (Or.inl (hw _ (List.mem_of_getElem? (i := 22) rfl))) Via.refl Fsize E (Or.inr ⟨(hw _ (List.mem_of_getElem? (i := 23) rfl)), rfl, hnm⟩) (hw _ (List.mem_of_getElem? (i := 15) rfl)) g (ty := .int) (by decide) rfl rfl rfl rfl (hb hby own_d4_6) (fun T63 h65 Y64 W66 F67 => ?_)
  show own_Ends _ _ _ _ (T63.setTop (mkF m 9 #[.val (.ref r0), .val (.int x1), .val (.ref r2), .val (.int (0 : Int32)), .val (.long x4), .second] []))
  refine own_st (fun t_ => XS.aloadN (own_here Y64) hx rfl (hb hby own_d4_9) rfl rfl) ?_
  show own_Ends _ _ _ _ (T63.setTop (mkF m 10 #[.val (.ref r0), .val (.int x1), .val (.ref r2), .val (.int (0 : Int32)), .val (.long x4), .second] [(.ref r0)]))
  refine own_st (fun t_ => XS.aloadN (own_here Y64) hx rfl (hb hby own_d4_10) rfl rfl) ?_
  show own_Ends _ _ _ _ (T63.setTop (mkF m 11 #[.val (.ref r0), .val (.int x1), .val (.ref r2), .val (.int (0 : Int32)), .val (.long x4), .second] [(.ref r2), (.ref r0)]))
  have f68 : Exa Z h65 r0 "com/example/poset/poset/core/Marking" := E.wr W66
  have f69 : Fld Z h65 r0 "com/example/poset/poset/core/Marking" "entries" "[J" .null := Fentries.other W66 (Or.inr (slot_ne (Or.inr (hw _ (List.mem_of_getElem? (i := 25) rfl))) (Or.inr (hw _ (List.mem_of_getElem? (i := 23) rfl))) (by decide) (t := (.array .long)) (t' := .int) (by decide) (by decide)))
  refine own_putF Y64 hx hZ hown (host := "") (Or.inl (hw _ (List.mem_of_getElem? (i := 24) rfl))) Via.refl f69 f68 (Or.inr ⟨(hw _ (List.mem_of_getElem? (i := 25) rfl)), rfl, hnm⟩) (hw _ (List.mem_of_getElem? (i := 15) rfl)) g (ty := (.array .long)) (by decide) rfl rfl rfl rfl (hb hby own_d4_11) (fun T70 h72 Y71 W73 F74 => ?_)
  show own_Ends _ _ _ _ (T70.setTop (mkF m 14 #[.val (.ref r0), .val (.int x1), .val (.ref r2), .val (.int (0 : Int32)), .val (.long x4), .second] []))
  refine own_st (fun t_ => XS.aloadN (own_here Y71) hx rfl (hb hby own_d4_14) rfl rfl) ?_
  show own_Ends _ _ _ _ (T70.setTop (mkF m 15 #[.val (.ref r0), .val (.int x1), .val (.ref r2), .val (.int (0 : Int32)), .val (.long x4), .second] [(.ref r0)]))
  refine own_st (fun t_ => XS.iloadN (own_here Y71) hx rfl (hb hby own_d4_15) rfl) ?_
  show own_Ends _ _ _ _ (T70.setTop (mkF m 16 #[.val (.ref r0), .val (.int x1), .val (.ref r2), .val (.int (0 : Int32)), .val (.long x4), .second] [(.int (0 : Int32)), (.ref r0)]))
  have f75 : Exa Z h72 r0 "com/example/poset/poset/core/Marking" := f68.wr W73
  have f76 : Fld Z h65 r0 "com/example/poset/poset/core/Marking" "wide" "Z" (.int (0 : Int32)) := Fwide.other W66 (Or.inr (slot_ne (Or.inr (hw _ (List.mem_of_getElem? (i := 27) rfl))) (Or.inr (hw _ (List.mem_of_getElem? (i := 23) rfl))) (by decide) (t := .boolean) (t' := .int) (by decide) (by decide)))
  have f77 : Fld Z h72 r0 "com/example/poset/poset/core/Marking" "wide" "Z" (.int (0 : Int32)) := f76.other W73 (Or.inr (slot_ne (Or.inr (hw _ (List.mem_of_getElem? (i := 27) rfl))) (Or.inr (hw _ (List.mem_of_getElem? (i := 25) rfl))) (by decide) (t := .boolean) (t' := (.array .long)) (by decide) (by decide)))
  refine own_putFN Y71 hx hZ hown (hw _ (List.mem_of_getElem? (i := 26) rfl)) Via.refl f77 f75 (Or.inr ⟨(hw _ (List.mem_of_getElem? (i := 27) rfl)), rfl, hnm⟩) (hw _ (List.mem_of_getElem? (i := 15) rfl)) g (ty := .boolean) (v' := (.int (0 : Int32))) (by decide) rfl (by decide) rfl rfl (hb hby own_d4_16) (fun T78 h80 Y79 W81 F82 => ?_)
  show own_Ends _ _ _ _ (T78.setTop (mkF m 19 #[.val (.ref r0), .val (.int x1), .val (.ref r2), .val (.int (0 : Int32)), .val (.long x4), .second] []))
  refine own_st (fun t_ => XS.aloadN (own_here Y79) hx rfl (hb hby own_d4_19) rfl rfl) ?_
  show own_Ends _ _ _ _ (T78.setTop (mkF m 20 #[.val (.ref r0), .val (.int x1), .val (.ref r2), .val (.int (0 : Int32)), .val (.long x4), .second] [(.ref r0)]))
  refine own_st (fun t_ => XS.lload (own_here Y79) hx rfl (hb hby own_d4_20) rfl) ?_
  show own_Ends _ _ _ _ (T78.setTop (mkF m 22 #[.val (.ref r0), .val (.int x1), .val (.ref r2), .val (.int (0 : Int32)), .val (.long x4), .second] [(.long x4), (.ref r0)]))
  have f83 : Exa Z h80 r0 "com/example/poset/poset/core/Marking" := f75.wr W81
  have f84 : Fld Z h65 r0 "com/example/poset/poset/core/Marking" "mixed" "J" (.long (0 : Int64)) := Fmixed.other W66 (Or.inr (slot_ne (Or.inr (hw _ (List.mem_of_getElem? (i := 29) rfl))) (Or.inr (hw _ (List.mem_of_getElem? (i := 23) rfl))) (by decide) (t := .long) (t' := .int) (by decide) (by decide)))
  have f85 : Fld Z h72 r0 "com/example/poset/poset/core/Marking" "mixed" "J" (.long (0 : Int64)) := f84.other W73 (Or.inr (slot_ne (Or.inr (hw _ (List.mem_of_getElem? (i := 29) rfl))) (Or.inr (hw _ (List.mem_of_getElem? (i := 25) rfl))) (by decide) (t := .long) (t' := (.array .long)) (by decide) (by decide)))
  have f86 : Fld Z h80 r0 "com/example/poset/poset/core/Marking" "mixed" "J" (.long (0 : Int64)) := f85.other W81 (Or.inr (slot_ne (Or.inr (hw _ (List.mem_of_getElem? (i := 29) rfl))) (Or.inr (hw _ (List.mem_of_getElem? (i := 27) rfl))) (by decide) (t := .long) (t' := .boolean) (by decide) (by decide)))
  refine own_putF Y79 hx hZ hown (host := "") (Or.inl (hw _ (List.mem_of_getElem? (i := 28) rfl))) Via.refl f86 f83 (Or.inr ⟨(hw _ (List.mem_of_getElem? (i := 29) rfl)), rfl, hnm⟩) (hw _ (List.mem_of_getElem? (i := 15) rfl)) g (ty := .long) (by decide) rfl rfl rfl rfl (hb hby own_d4_22) (fun T87 h89 Y88 W90 F91 => ?_)
  show own_Ends _ _ _ _ (T87.setTop (mkF m 25 #[.val (.ref r0), .val (.int x1), .val (.ref r2), .val (.int (0 : Int32)), .val (.long x4), .second] []))
  have K92 : Keep h0 h65 [r0] := (Keep.refl h0 [r0]).wr W66 (Or.inl (List.mem_of_getElem? (i := 0) rfl))
  have K93 : Keep h0 h72 [r0] := K92.wr W73 (Or.inl (List.mem_of_getElem? (i := 0) rfl))
  have K94 : Keep h0 h80 [r0] := K93.wr W81 (Or.inl (List.mem_of_getElem? (i := 0) rfl))
  have K95 : Keep h0 h89 [r0] := K94.wr W90 (Or.inl (List.mem_of_getElem? (i := 0) rfl))
  have f96 : Fld Z h72 r0 "com/example/poset/poset/core/Marking" "size" "I" (.int x1) := F67.other W73 (Or.inr (slot_ne (Or.inr (hw _ (List.mem_of_getElem? (i := 23) rfl))) (Or.inr (hw _ (List.mem_of_getElem? (i := 25) rfl))) (by decide) (t := .int) (t' := (.array .long)) (by decide) (by decide)))
  have f97 : Fld Z h80 r0 "com/example/poset/poset/core/Marking" "size" "I" (.int x1) := f96.other W81 (Or.inr (slot_ne (Or.inr (hw _ (List.mem_of_getElem? (i := 23) rfl))) (Or.inr (hw _ (List.mem_of_getElem? (i := 27) rfl))) (by decide) (t := .int) (t' := .boolean) (by decide) (by decide)))
  have f98 : Fld Z h89 r0 "com/example/poset/poset/core/Marking" "size" "I" (.int x1) := f97.other W90 (Or.inr (slot_ne (Or.inr (hw _ (List.mem_of_getElem? (i := 23) rfl))) (Or.inr (hw _ (List.mem_of_getElem? (i := 29) rfl))) (by decide) (t := .int) (t' := .long) (by decide) (by decide)))
  have f99 : Fld Z h80 r0 "com/example/poset/poset/core/Marking" "entries" "[J" (.ref r2) := F74.other W81 (Or.inr (slot_ne (Or.inr (hw _ (List.mem_of_getElem? (i := 25) rfl))) (Or.inr (hw _ (List.mem_of_getElem? (i := 27) rfl))) (by decide) (t := (.array .long)) (t' := .boolean) (by decide) (by decide)))
  have f100 : Fld Z h89 r0 "com/example/poset/poset/core/Marking" "entries" "[J" (.ref r2) := f99.other W90 (Or.inr (slot_ne (Or.inr (hw _ (List.mem_of_getElem? (i := 25) rfl))) (Or.inr (hw _ (List.mem_of_getElem? (i := 29) rfl))) (by decide) (t := (.array .long)) (t' := .long) (by decide) (by decide)))
  have f101 : Fld Z h89 r0 "com/example/poset/poset/core/Marking" "wide" "Z" (.int (0 : Int32)) := F82.other W90 (Or.inr (slot_ne (Or.inr (hw _ (List.mem_of_getElem? (i := 27) rfl))) (Or.inr (hw _ (List.mem_of_getElem? (i := 29) rfl))) (by decide) (t := .boolean) (t' := .long) (by decide) (by decide)))
  refine own_retV Y88 hx hlk hret (hb hby own_d4_25) (by decide) (by decide) ?_
  exact ⟨rfl, K95, f98, f100, f101⟩
theorem own_d2_0 : decode prog_47_method_14_code 0 = .ok (.iload_n 1, 1) := by decide +kernel
theorem own_d2_1 : decode prog_47_method_14_code 1 = .ok (.ifCond .eq 22, 3) := by decide +kernel
theorem own_d2_23 : decode prog_47_method_14_code 23 = .ok (.aload_n 0, 1) := by decide +kernel
theorem own_d2_24 : decode prog_47_method_14_code 24 = .ok (.iload_n 2, 1) := by decide +kernel
theorem own_d2_25 : decode prog_47_method_14_code 25 = .ok (.iload_n 3, 1) := by decide +kernel
theorem own_d2_26 : decode prog_47_method_14_code 26 = .ok (.i2l, 1) := by decide +kernel
theorem own_d2_27 : decode prog_47_method_14_code 27 = .ok (.bipush 32, 2) := by decide +kernel
theorem own_d2_29 : decode prog_47_method_14_code 29 = .ok (.lshl, 1) := by decide +kernel
theorem own_d2_30 : decode prog_47_method_14_code 30 = .ok (.lload 4, 2) := by decide +kernel
theorem own_d2_32 : decode prog_47_method_14_code 32 = .ok (.lor, 1) := by decide +kernel
theorem own_d2_33 : decode prog_47_method_14_code 33 = .ok (.lastore, 1) := by decide +kernel
theorem own_d2_34 : decode prog_47_method_14_code 34 = .ok (.return_, 1) := by decide +kernel
theorem own_ef_own_rm2_1_0 (m : MethodId) (r0 : Addr) (x3 : Int32) (x4 : Int64) : entryFrame m #[(.ref r0), (.int (0 : Int32)), (.int (0 : Int32)), (.int x3), (.long x4)] 6 = mkF m 0 #[.val (.ref r0), .val (.int (0 : Int32)), .val (.int (0 : Int32)), .val (.int x3), .val (.long x4), .second] [] := by first | (simp [entryFrame, mkF, argsToLocals, Value.category]; done) | rfl
def own_Q_own_rm2_1_0 (Z : State) (r0 : Addr) (x3 : Int32) (y0 : Int64) (x4i : Int32) (h0 : Heap) (n0 : Nat) (v : Option Value) (h : Heap) : Prop := v = none ∧ Keep h0 h [r0] ∧ own_A Z h r0 .long [(.long (own_E x3 x4i))]
set_option maxRecDepth 65536 in
set_option maxHeartbeats 40000000 in
theorem own_rm2_1_0 (l : Launch) (Z : State) (a0 : Array Value) (hw : ∀ d ∈ tables_1, d.before a0 Z = true) (ws : List Jvm.Cond) (r0 : Addr) (x3 : Int32) (x4 : Int64) (y0 : Int64) (x4i : Int32) (h0 : Heap) (n0 : Nat)  (A : own_A Z h0 r0 .long [(.long y0)]) (g : n0 ≤ r0) (hx4 : x4 = x4i.toInt64) :
    own_Con l Z (⟨"com/example/poset/poset/core/Marking", "put", "([JZIIJ)V"⟩ : MethodName) prog_47_method_14_code 6 none ws ({ frames := 0, cells := 0, slots := 0, locals := 0 } : Room) #[(.ref r0), (.int (0 : Int32)), (.int (0 : Int32)), (.int x3), (.long x4)] h0 n0 (own_Q_own_rm2_1_0 Z r0 x3 y0 x4i h0 n0) := by
  refine own_body (plainFor_of_name own_pn0) ?_
  intro p e s m below meth c T0 hx hZ hby hml hown hnm hret hlk Y0
  replace hown : s.vm.findClass "com/example/poset/poset/core/Marking" = some m.cls := hown
  replace hnm : meth.name = "put" := hnm
  rw [own_ef_own_rm2_1_0 m r0 x3 x4]
  show own_Ends _ _ _ _ (T0.setTop (mkF m 0 #[.val (.ref r0), .val (.int (0 : Int32)), .val (.int (0 : Int32)), .val (.int x3), .val (.long x4), .second] []))
  refine own_st (fun t_ => XS.iloadN (own_here Y0) hx rfl (hb hby own_d2_0) rfl) ?_
  show own_Ends _ _ _ _ (T0.setTop (mkF m 1 #[.val (.ref r0), .val (.int (0 : Int32)), .val (.int (0 : Int32)), .val (.int x3), .val (.long x4), .second] [(.int (0 : Int32))]))
  refine own_st (fun t_ => XS.ifYes (own_here Y0) hx rfl (pc0 := 1) (pc' := 23) rfl (hb hby own_d2_1) rfl (XT.i0_eq_t (by decide)) (by decide) (by decide)) ?_
  show own_Ends _ _ _ _ (T0.setTop (mkF m 23 #[.val (.ref r0), .val (.int (0 : Int32)), .val (.int (0 : Int32)), .val (.int x3), .val (.long x4), .second] []))
  refine own_st (fun t_ => XS.aloadN (own_here Y0) hx rfl (hb hby own_d2_23) rfl rfl) ?_
  show own_Ends _ _ _ _ (T0.setTop (mkF m 24 #[.val (.ref r0), .val (.int (0 : Int32)), .val (.int (0 : Int32)), .val (.int x3), .val (.long x4), .second] [(.ref r0)]))
  refine own_st (fun t_ => XS.iloadN (own_here Y0) hx rfl (hb hby own_d2_24) rfl) ?_
  show own_Ends _ _ _ _ (T0.setTop (mkF m 25 #[.val (.ref r0), .val (.int (0 : Int32)), .val (.int (0 : Int32)), .val (.int x3), .val (.long x4), .second] [(.int (0 : Int32)), (.ref r0)]))
  refine own_st (fun t_ => XS.iloadN (own_here Y0) hx rfl (hb hby own_d2_25) rfl) ?_
  show own_Ends _ _ _ _ (T0.setTop (mkF m 26 #[.val (.ref r0), .val (.int (0 : Int32)), .val (.int (0 : Int32)), .val (.int x3), .val (.long x4), .second] [(.int x3), (.int (0 : Int32)), (.ref r0)]))
  refine own_st (fun t_ => XS.i2l (own_here Y0) hx rfl (hb hby own_d2_26) rfl) ?_
  show own_Ends _ _ _ _ (T0.setTop (mkF m 27 #[.val (.ref r0), .val (.int (0 : Int32)), .val (.int (0 : Int32)), .val (.int x3), .val (.long x4), .second] [(.long (x3.toInt64)), (.int (0 : Int32)), (.ref r0)]))
  refine own_st (fun t_ => XS.bipush (own_here Y0) hx rfl (hb hby own_d2_27) ) ?_
  show own_Ends _ _ _ _ (T0.setTop (mkF m 29 #[.val (.ref r0), .val (.int (0 : Int32)), .val (.int (0 : Int32)), .val (.int x3), .val (.long x4), .second] [(.int (32 : Int32)), (.long (x3.toInt64)), (.int (0 : Int32)), (.ref r0)]))
  refine own_st (fun t_ => XS.lshl (own_here Y0) hx rfl (hb hby own_d2_29) rfl) ?_
  show own_Ends _ _ _ _ (T0.setTop (mkF m 30 #[.val (.ref r0), .val (.int (0 : Int32)), .val (.int (0 : Int32)), .val (.int x3), .val (.long x4), .second] [(.long ((x3.toInt64) <<< ((32 : Int32) &&& 0x3f).toInt64)), (.int (0 : Int32)), (.ref r0)]))
  refine own_st (fun t_ => XS.lload (own_here Y0) hx rfl (hb hby own_d2_30) rfl) ?_
  show own_Ends _ _ _ _ (T0.setTop (mkF m 32 #[.val (.ref r0), .val (.int (0 : Int32)), .val (.int (0 : Int32)), .val (.int x3), .val (.long x4), .second] [(.long x4), (.long ((x3.toInt64) <<< ((32 : Int32) &&& 0x3f).toInt64)), (.int (0 : Int32)), (.ref r0)]))
  refine own_st (fun t_ => XS.lor (own_here Y0) hx rfl (hb hby own_d2_32) rfl) ?_
  show own_Ends _ _ _ _ (T0.setTop (mkF m 33 #[.val (.ref r0), .val (.int (0 : Int32)), .val (.int (0 : Int32)), .val (.int x3), .val (.long x4), .second] [(.long (((x3.toInt64) <<< ((32 : Int32) &&& 0x3f).toInt64) ||| x4)), (.int (0 : Int32)), (.ref r0)]))
  refine own_stJ Y0 hx hZ A g (i := 0) (by decide) (by decide) (Nat.le_of_ble_eq_true rfl) rfl rfl (hb hby own_d2_33) (fun T102 h104 Y103 W105 A106 => ?_)
  replace A106 : own_A Z h104 r0 .long [(.long (((x3.toInt64) <<< ((32 : Int32) &&& 0x3f).toInt64) ||| x4))] := A106
  show own_Ends _ _ _ _ (T102.setTop (mkF m 34 #[.val (.ref r0), .val (.int (0 : Int32)), .val (.int (0 : Int32)), .val (.int x3), .val (.long x4), .second] []))
  have K107 : Keep h0 h104 [r0] := (Keep.refl h0 [r0]).wr W105 (Or.inl (List.mem_of_getElem? (i := 0) rfl))
  refine own_retV Y103 hx hlk hret (hb hby own_d2_34) (by decide) (by decide) ?_
  subst hx4
  exact ⟨rfl, K107, A106⟩
theorem own_ef_own_rm2_2_0 (m : MethodId) (r0 : Addr) (x3 : Int32) (x4 : Int64) : entryFrame m #[(.ref r0), (.int (0 : Int32)), (.int (0 : Int32)), (.int x3), (.long x4)] 6 = mkF m 0 #[.val (.ref r0), .val (.int (0 : Int32)), .val (.int (0 : Int32)), .val (.int x3), .val (.long x4), .second] [] := by first | (simp [entryFrame, mkF, argsToLocals, Value.category]; done) | rfl
def own_Q_own_rm2_2_0 (Z : State) (r0 : Addr) (x3 : Int32) (y0 y1 : Int64) (x4i : Int32) (h0 : Heap) (n0 : Nat) (v : Option Value) (h : Heap) : Prop := v = none ∧ Keep h0 h [r0] ∧ own_A Z h r0 .long [(.long (own_E x3 x4i)), (.long y1)]
set_option maxRecDepth 65536 in
set_option maxHeartbeats 40000000 in
theorem own_rm2_2_0 (l : Launch) (Z : State) (a0 : Array Value) (hw : ∀ d ∈ tables_1, d.before a0 Z = true) (ws : List Jvm.Cond) (r0 : Addr) (x3 : Int32) (x4 : Int64) (y0 y1 : Int64) (x4i : Int32) (h0 : Heap) (n0 : Nat)  (A : own_A Z h0 r0 .long [(.long y0), (.long y1)]) (g : n0 ≤ r0) (hx4 : x4 = x4i.toInt64) :
    own_Con l Z (⟨"com/example/poset/poset/core/Marking", "put", "([JZIIJ)V"⟩ : MethodName) prog_47_method_14_code 6 none ws ({ frames := 0, cells := 0, slots := 0, locals := 0 } : Room) #[(.ref r0), (.int (0 : Int32)), (.int (0 : Int32)), (.int x3), (.long x4)] h0 n0 (own_Q_own_rm2_2_0 Z r0 x3 y0 y1 x4i h0 n0) := by
  refine own_body (plainFor_of_name own_pn0) ?_
  intro p e s m below meth c T0 hx hZ hby hml hown hnm hret hlk Y0
  replace hown : s.vm.findClass "com/example/poset/poset/core/Marking" = some m.cls := hown
  replace hnm : meth.name = "put" := hnm
  rw [own_ef_own_rm2_2_0 m r0 x3 x4]
  show own_Ends _ _ _ _ (T0.setTop (mkF m 0 #[.val (.ref r0), .val (.int (0 : Int32)), .val (.int (0 : Int32)), .val (.int x3), .val (.long x4), .second] []))
  refine own_st (fun t_ => XS.iloadN (own_here Y0) hx rfl (hb hby own_d2_0) rfl) ?_
  show own_Ends _ _ _ _ (T0.setTop (mkF m 1 #[.val (.ref r0), .val (.int (0 : Int32)), .val (.int (0 : Int32)), .val (.int x3), .val (.long x4), .second] [(.int (0 : Int32))]))
  refine own_st (fun t_ => XS.ifYes (own_here Y0) hx rfl (pc0 := 1) (pc' := 23) rfl (hb hby own_d2_1) rfl (XT.i0_eq_t (by decide)) (by decide) (by decide)) ?_
  show own_Ends _ _ _ _ (T0.setTop (mkF m 23 #[.val (.ref r0), .val (.int (0 : Int32)), .val (.int (0 : Int32)), .val (.int x3), .val (.long x4), .second] []))
  refine own_st (fun t_ => XS.aloadN (own_here Y0) hx rfl (hb hby own_d2_23) rfl rfl) ?_
  show own_Ends _ _ _ _ (T0.setTop (mkF m 24 #[.val (.ref r0), .val (.int (0 : Int32)), .val (.int (0 : Int32)), .val (.int x3), .val (.long x4), .second] [(.ref r0)]))
  refine own_st (fun t_ => XS.iloadN (own_here Y0) hx rfl (hb hby own_d2_24) rfl) ?_
  show own_Ends _ _ _ _ (T0.setTop (mkF m 25 #[.val (.ref r0), .val (.int (0 : Int32)), .val (.int (0 : Int32)), .val (.int x3), .val (.long x4), .second] [(.int (0 : Int32)), (.ref r0)]))
  refine own_st (fun t_ => XS.iloadN (own_here Y0) hx rfl (hb hby own_d2_25) rfl) ?_
  show own_Ends _ _ _ _ (T0.setTop (mkF m 26 #[.val (.ref r0), .val (.int (0 : Int32)), .val (.int (0 : Int32)), .val (.int x3), .val (.long x4), .second] [(.int x3), (.int (0 : Int32)), (.ref r0)]))
  refine own_st (fun t_ => XS.i2l (own_here Y0) hx rfl (hb hby own_d2_26) rfl) ?_
  show own_Ends _ _ _ _ (T0.setTop (mkF m 27 #[.val (.ref r0), .val (.int (0 : Int32)), .val (.int (0 : Int32)), .val (.int x3), .val (.long x4), .second] [(.long (x3.toInt64)), (.int (0 : Int32)), (.ref r0)]))
  refine own_st (fun t_ => XS.bipush (own_here Y0) hx rfl (hb hby own_d2_27) ) ?_
  show own_Ends _ _ _ _ (T0.setTop (mkF m 29 #[.val (.ref r0), .val (.int (0 : Int32)), .val (.int (0 : Int32)), .val (.int x3), .val (.long x4), .second] [(.int (32 : Int32)), (.long (x3.toInt64)), (.int (0 : Int32)), (.ref r0)]))
  refine own_st (fun t_ => XS.lshl (own_here Y0) hx rfl (hb hby own_d2_29) rfl) ?_
  show own_Ends _ _ _ _ (T0.setTop (mkF m 30 #[.val (.ref r0), .val (.int (0 : Int32)), .val (.int (0 : Int32)), .val (.int x3), .val (.long x4), .second] [(.long ((x3.toInt64) <<< ((32 : Int32) &&& 0x3f).toInt64)), (.int (0 : Int32)), (.ref r0)]))
  refine own_st (fun t_ => XS.lload (own_here Y0) hx rfl (hb hby own_d2_30) rfl) ?_
  show own_Ends _ _ _ _ (T0.setTop (mkF m 32 #[.val (.ref r0), .val (.int (0 : Int32)), .val (.int (0 : Int32)), .val (.int x3), .val (.long x4), .second] [(.long x4), (.long ((x3.toInt64) <<< ((32 : Int32) &&& 0x3f).toInt64)), (.int (0 : Int32)), (.ref r0)]))
  refine own_st (fun t_ => XS.lor (own_here Y0) hx rfl (hb hby own_d2_32) rfl) ?_
  show own_Ends _ _ _ _ (T0.setTop (mkF m 33 #[.val (.ref r0), .val (.int (0 : Int32)), .val (.int (0 : Int32)), .val (.int x3), .val (.long x4), .second] [(.long (((x3.toInt64) <<< ((32 : Int32) &&& 0x3f).toInt64) ||| x4)), (.int (0 : Int32)), (.ref r0)]))
  refine own_stJ Y0 hx hZ A g (i := 0) (by decide) (by decide) (Nat.le_of_ble_eq_true rfl) rfl rfl (hb hby own_d2_33) (fun T108 h110 Y109 W111 A112 => ?_)
  replace A112 : own_A Z h110 r0 .long [(.long (((x3.toInt64) <<< ((32 : Int32) &&& 0x3f).toInt64) ||| x4)), (.long y1)] := A112
  show own_Ends _ _ _ _ (T108.setTop (mkF m 34 #[.val (.ref r0), .val (.int (0 : Int32)), .val (.int (0 : Int32)), .val (.int x3), .val (.long x4), .second] []))
  have K113 : Keep h0 h110 [r0] := (Keep.refl h0 [r0]).wr W111 (Or.inl (List.mem_of_getElem? (i := 0) rfl))
  refine own_retV Y109 hx hlk hret (hb hby own_d2_34) (by decide) (by decide) ?_
  subst hx4
  exact ⟨rfl, K113, A112⟩
theorem own_ef_own_rm2_2_1 (m : MethodId) (r0 : Addr) (x3 : Int32) (x4 : Int64) : entryFrame m #[(.ref r0), (.int (0 : Int32)), (.int (1 : Int32)), (.int x3), (.long x4)] 6 = mkF m 0 #[.val (.ref r0), .val (.int (0 : Int32)), .val (.int (1 : Int32)), .val (.int x3), .val (.long x4), .second] [] := by first | (simp [entryFrame, mkF, argsToLocals, Value.category]; done) | rfl
def own_Q_own_rm2_2_1 (Z : State) (r0 : Addr) (x3 : Int32) (y0 y1 : Int64) (x4i : Int32) (h0 : Heap) (n0 : Nat) (v : Option Value) (h : Heap) : Prop := v = none ∧ Keep h0 h [r0] ∧ own_A Z h r0 .long [(.long y0), (.long (own_E x3 x4i))]
set_option maxRecDepth 65536 in
set_option maxHeartbeats 40000000 in
theorem own_rm2_2_1 (l : Launch) (Z : State) (a0 : Array Value) (hw : ∀ d ∈ tables_1, d.before a0 Z = true) (ws : List Jvm.Cond) (r0 : Addr) (x3 : Int32) (x4 : Int64) (y0 y1 : Int64) (x4i : Int32) (h0 : Heap) (n0 : Nat)  (A : own_A Z h0 r0 .long [(.long y0), (.long y1)]) (g : n0 ≤ r0) (hx4 : x4 = x4i.toInt64) :
    own_Con l Z (⟨"com/example/poset/poset/core/Marking", "put", "([JZIIJ)V"⟩ : MethodName) prog_47_method_14_code 6 none ws ({ frames := 0, cells := 0, slots := 0, locals := 0 } : Room) #[(.ref r0), (.int (0 : Int32)), (.int (1 : Int32)), (.int x3), (.long x4)] h0 n0 (own_Q_own_rm2_2_1 Z r0 x3 y0 y1 x4i h0 n0) := by
  refine own_body (plainFor_of_name own_pn0) ?_
  intro p e s m below meth c T0 hx hZ hby hml hown hnm hret hlk Y0
  replace hown : s.vm.findClass "com/example/poset/poset/core/Marking" = some m.cls := hown
  replace hnm : meth.name = "put" := hnm
  rw [own_ef_own_rm2_2_1 m r0 x3 x4]
  show own_Ends _ _ _ _ (T0.setTop (mkF m 0 #[.val (.ref r0), .val (.int (0 : Int32)), .val (.int (1 : Int32)), .val (.int x3), .val (.long x4), .second] []))
  refine own_st (fun t_ => XS.iloadN (own_here Y0) hx rfl (hb hby own_d2_0) rfl) ?_
  show own_Ends _ _ _ _ (T0.setTop (mkF m 1 #[.val (.ref r0), .val (.int (0 : Int32)), .val (.int (1 : Int32)), .val (.int x3), .val (.long x4), .second] [(.int (0 : Int32))]))
  refine own_st (fun t_ => XS.ifYes (own_here Y0) hx rfl (pc0 := 1) (pc' := 23) rfl (hb hby own_d2_1) rfl (XT.i0_eq_t (by decide)) (by decide) (by decide)) ?_
  show own_Ends _ _ _ _ (T0.setTop (mkF m 23 #[.val (.ref r0), .val (.int (0 : Int32)), .val (.int (1 : Int32)), .val (.int x3), .val (.long x4), .second] []))
  refine own_st (fun t_ => XS.aloadN (own_here Y0) hx rfl (hb hby own_d2_23) rfl rfl) ?_
  show own_Ends _ _ _ _ (T0.setTop (mkF m 24 #[.val (.ref r0), .val (.int (0 : Int32)), .val (.int (1 : Int32)), .val (.int x3), .val (.long x4), .second] [(.ref r0)]))
  refine own_st (fun t_ => XS.iloadN (own_here Y0) hx rfl (hb hby own_d2_24) rfl) ?_
  show own_Ends _ _ _ _ (T0.setTop (mkF m 25 #[.val (.ref r0), .val (.int (0 : Int32)), .val (.int (1 : Int32)), .val (.int x3), .val (.long x4), .second] [(.int (1 : Int32)), (.ref r0)]))
  refine own_st (fun t_ => XS.iloadN (own_here Y0) hx rfl (hb hby own_d2_25) rfl) ?_
  show own_Ends _ _ _ _ (T0.setTop (mkF m 26 #[.val (.ref r0), .val (.int (0 : Int32)), .val (.int (1 : Int32)), .val (.int x3), .val (.long x4), .second] [(.int x3), (.int (1 : Int32)), (.ref r0)]))
  refine own_st (fun t_ => XS.i2l (own_here Y0) hx rfl (hb hby own_d2_26) rfl) ?_
  show own_Ends _ _ _ _ (T0.setTop (mkF m 27 #[.val (.ref r0), .val (.int (0 : Int32)), .val (.int (1 : Int32)), .val (.int x3), .val (.long x4), .second] [(.long (x3.toInt64)), (.int (1 : Int32)), (.ref r0)]))
  refine own_st (fun t_ => XS.bipush (own_here Y0) hx rfl (hb hby own_d2_27) ) ?_
  show own_Ends _ _ _ _ (T0.setTop (mkF m 29 #[.val (.ref r0), .val (.int (0 : Int32)), .val (.int (1 : Int32)), .val (.int x3), .val (.long x4), .second] [(.int (32 : Int32)), (.long (x3.toInt64)), (.int (1 : Int32)), (.ref r0)]))
  refine own_st (fun t_ => XS.lshl (own_here Y0) hx rfl (hb hby own_d2_29) rfl) ?_
  show own_Ends _ _ _ _ (T0.setTop (mkF m 30 #[.val (.ref r0), .val (.int (0 : Int32)), .val (.int (1 : Int32)), .val (.int x3), .val (.long x4), .second] [(.long ((x3.toInt64) <<< ((32 : Int32) &&& 0x3f).toInt64)), (.int (1 : Int32)), (.ref r0)]))
  refine own_st (fun t_ => XS.lload (own_here Y0) hx rfl (hb hby own_d2_30) rfl) ?_
  show own_Ends _ _ _ _ (T0.setTop (mkF m 32 #[.val (.ref r0), .val (.int (0 : Int32)), .val (.int (1 : Int32)), .val (.int x3), .val (.long x4), .second] [(.long x4), (.long ((x3.toInt64) <<< ((32 : Int32) &&& 0x3f).toInt64)), (.int (1 : Int32)), (.ref r0)]))
  refine own_st (fun t_ => XS.lor (own_here Y0) hx rfl (hb hby own_d2_32) rfl) ?_
  show own_Ends _ _ _ _ (T0.setTop (mkF m 33 #[.val (.ref r0), .val (.int (0 : Int32)), .val (.int (1 : Int32)), .val (.int x3), .val (.long x4), .second] [(.long (((x3.toInt64) <<< ((32 : Int32) &&& 0x3f).toInt64) ||| x4)), (.int (1 : Int32)), (.ref r0)]))
  refine own_stJ Y0 hx hZ A g (i := 1) (by decide) (by decide) (Nat.le_of_ble_eq_true rfl) rfl rfl (hb hby own_d2_33) (fun T114 h116 Y115 W117 A118 => ?_)
  replace A118 : own_A Z h116 r0 .long [(.long y0), (.long (((x3.toInt64) <<< ((32 : Int32) &&& 0x3f).toInt64) ||| x4))] := A118
  show own_Ends _ _ _ _ (T114.setTop (mkF m 34 #[.val (.ref r0), .val (.int (0 : Int32)), .val (.int (1 : Int32)), .val (.int x3), .val (.long x4), .second] []))
  have K119 : Keep h0 h116 [r0] := (Keep.refl h0 [r0]).wr W117 (Or.inl (List.mem_of_getElem? (i := 0) rfl))
  refine own_retV Y115 hx hlk hret (hb hby own_d2_34) (by decide) (by decide) ?_
  subst hx4
  exact ⟨rfl, K119, A118⟩
theorem own_ef_own_rm2_3_0 (m : MethodId) (r0 : Addr) (x3 : Int32) (x4 : Int64) : entryFrame m #[(.ref r0), (.int (0 : Int32)), (.int (0 : Int32)), (.int x3), (.long x4)] 6 = mkF m 0 #[.val (.ref r0), .val (.int (0 : Int32)), .val (.int (0 : Int32)), .val (.int x3), .val (.long x4), .second] [] := by first | (simp [entryFrame, mkF, argsToLocals, Value.category]; done) | rfl
def own_Q_own_rm2_3_0 (Z : State) (r0 : Addr) (x3 : Int32) (y0 y1 y2 : Int64) (x4i : Int32) (h0 : Heap) (n0 : Nat) (v : Option Value) (h : Heap) : Prop := v = none ∧ Keep h0 h [r0] ∧ own_A Z h r0 .long [(.long (own_E x3 x4i)), (.long y1), (.long y2)]
set_option maxRecDepth 65536 in
set_option maxHeartbeats 40000000 in
theorem own_rm2_3_0 (l : Launch) (Z : State) (a0 : Array Value) (hw : ∀ d ∈ tables_1, d.before a0 Z = true) (ws : List Jvm.Cond) (r0 : Addr) (x3 : Int32) (x4 : Int64) (y0 y1 y2 : Int64) (x4i : Int32) (h0 : Heap) (n0 : Nat)  (A : own_A Z h0 r0 .long [(.long y0), (.long y1), (.long y2)]) (g : n0 ≤ r0) (hx4 : x4 = x4i.toInt64) :
    own_Con l Z (⟨"com/example/poset/poset/core/Marking", "put", "([JZIIJ)V"⟩ : MethodName) prog_47_method_14_code 6 none ws ({ frames := 0, cells := 0, slots := 0, locals := 0 } : Room) #[(.ref r0), (.int (0 : Int32)), (.int (0 : Int32)), (.int x3), (.long x4)] h0 n0 (own_Q_own_rm2_3_0 Z r0 x3 y0 y1 y2 x4i h0 n0) := by
  refine own_body (plainFor_of_name own_pn0) ?_
  intro p e s m below meth c T0 hx hZ hby hml hown hnm hret hlk Y0
  replace hown : s.vm.findClass "com/example/poset/poset/core/Marking" = some m.cls := hown
  replace hnm : meth.name = "put" := hnm
  rw [own_ef_own_rm2_3_0 m r0 x3 x4]
  show own_Ends _ _ _ _ (T0.setTop (mkF m 0 #[.val (.ref r0), .val (.int (0 : Int32)), .val (.int (0 : Int32)), .val (.int x3), .val (.long x4), .second] []))
  refine own_st (fun t_ => XS.iloadN (own_here Y0) hx rfl (hb hby own_d2_0) rfl) ?_
  show own_Ends _ _ _ _ (T0.setTop (mkF m 1 #[.val (.ref r0), .val (.int (0 : Int32)), .val (.int (0 : Int32)), .val (.int x3), .val (.long x4), .second] [(.int (0 : Int32))]))
  refine own_st (fun t_ => XS.ifYes (own_here Y0) hx rfl (pc0 := 1) (pc' := 23) rfl (hb hby own_d2_1) rfl (XT.i0_eq_t (by decide)) (by decide) (by decide)) ?_
  show own_Ends _ _ _ _ (T0.setTop (mkF m 23 #[.val (.ref r0), .val (.int (0 : Int32)), .val (.int (0 : Int32)), .val (.int x3), .val (.long x4), .second] []))
  refine own_st (fun t_ => XS.aloadN (own_here Y0) hx rfl (hb hby own_d2_23) rfl rfl) ?_
  show own_Ends _ _ _ _ (T0.setTop (mkF m 24 #[.val (.ref r0), .val (.int (0 : Int32)), .val (.int (0 : Int32)), .val (.int x3), .val (.long x4), .second] [(.ref r0)]))
  refine own_st (fun t_ => XS.iloadN (own_here Y0) hx rfl (hb hby own_d2_24) rfl) ?_
  show own_Ends _ _ _ _ (T0.setTop (mkF m 25 #[.val (.ref r0), .val (.int (0 : Int32)), .val (.int (0 : Int32)), .val (.int x3), .val (.long x4), .second] [(.int (0 : Int32)), (.ref r0)]))
  refine own_st (fun t_ => XS.iloadN (own_here Y0) hx rfl (hb hby own_d2_25) rfl) ?_
  show own_Ends _ _ _ _ (T0.setTop (mkF m 26 #[.val (.ref r0), .val (.int (0 : Int32)), .val (.int (0 : Int32)), .val (.int x3), .val (.long x4), .second] [(.int x3), (.int (0 : Int32)), (.ref r0)]))
  refine own_st (fun t_ => XS.i2l (own_here Y0) hx rfl (hb hby own_d2_26) rfl) ?_
  show own_Ends _ _ _ _ (T0.setTop (mkF m 27 #[.val (.ref r0), .val (.int (0 : Int32)), .val (.int (0 : Int32)), .val (.int x3), .val (.long x4), .second] [(.long (x3.toInt64)), (.int (0 : Int32)), (.ref r0)]))
  refine own_st (fun t_ => XS.bipush (own_here Y0) hx rfl (hb hby own_d2_27) ) ?_
  show own_Ends _ _ _ _ (T0.setTop (mkF m 29 #[.val (.ref r0), .val (.int (0 : Int32)), .val (.int (0 : Int32)), .val (.int x3), .val (.long x4), .second] [(.int (32 : Int32)), (.long (x3.toInt64)), (.int (0 : Int32)), (.ref r0)]))
  refine own_st (fun t_ => XS.lshl (own_here Y0) hx rfl (hb hby own_d2_29) rfl) ?_
  show own_Ends _ _ _ _ (T0.setTop (mkF m 30 #[.val (.ref r0), .val (.int (0 : Int32)), .val (.int (0 : Int32)), .val (.int x3), .val (.long x4), .second] [(.long ((x3.toInt64) <<< ((32 : Int32) &&& 0x3f).toInt64)), (.int (0 : Int32)), (.ref r0)]))
  refine own_st (fun t_ => XS.lload (own_here Y0) hx rfl (hb hby own_d2_30) rfl) ?_
  show own_Ends _ _ _ _ (T0.setTop (mkF m 32 #[.val (.ref r0), .val (.int (0 : Int32)), .val (.int (0 : Int32)), .val (.int x3), .val (.long x4), .second] [(.long x4), (.long ((x3.toInt64) <<< ((32 : Int32) &&& 0x3f).toInt64)), (.int (0 : Int32)), (.ref r0)]))
  refine own_st (fun t_ => XS.lor (own_here Y0) hx rfl (hb hby own_d2_32) rfl) ?_
  show own_Ends _ _ _ _ (T0.setTop (mkF m 33 #[.val (.ref r0), .val (.int (0 : Int32)), .val (.int (0 : Int32)), .val (.int x3), .val (.long x4), .second] [(.long (((x3.toInt64) <<< ((32 : Int32) &&& 0x3f).toInt64) ||| x4)), (.int (0 : Int32)), (.ref r0)]))
  refine own_stJ Y0 hx hZ A g (i := 0) (by decide) (by decide) (Nat.le_of_ble_eq_true rfl) rfl rfl (hb hby own_d2_33) (fun T120 h122 Y121 W123 A124 => ?_)
  replace A124 : own_A Z h122 r0 .long [(.long (((x3.toInt64) <<< ((32 : Int32) &&& 0x3f).toInt64) ||| x4)), (.long y1), (.long y2)] := A124
  show own_Ends _ _ _ _ (T120.setTop (mkF m 34 #[.val (.ref r0), .val (.int (0 : Int32)), .val (.int (0 : Int32)), .val (.int x3), .val (.long x4), .second] []))
  have K125 : Keep h0 h122 [r0] := (Keep.refl h0 [r0]).wr W123 (Or.inl (List.mem_of_getElem? (i := 0) rfl))
  refine own_retV Y121 hx hlk hret (hb hby own_d2_34) (by decide) (by decide) ?_
  subst hx4
  exact ⟨rfl, K125, A124⟩
theorem own_ef_own_rm2_3_1 (m : MethodId) (r0 : Addr) (x3 : Int32) (x4 : Int64) : entryFrame m #[(.ref r0), (.int (0 : Int32)), (.int (1 : Int32)), (.int x3), (.long x4)] 6 = mkF m 0 #[.val (.ref r0), .val (.int (0 : Int32)), .val (.int (1 : Int32)), .val (.int x3), .val (.long x4), .second] [] := by first | (simp [entryFrame, mkF, argsToLocals, Value.category]; done) | rfl
def own_Q_own_rm2_3_1 (Z : State) (r0 : Addr) (x3 : Int32) (y0 y1 y2 : Int64) (x4i : Int32) (h0 : Heap) (n0 : Nat) (v : Option Value) (h : Heap) : Prop := v = none ∧ Keep h0 h [r0] ∧ own_A Z h r0 .long [(.long y0), (.long (own_E x3 x4i)), (.long y2)]
set_option maxRecDepth 65536 in
set_option maxHeartbeats 40000000 in
theorem own_rm2_3_1 (l : Launch) (Z : State) (a0 : Array Value) (hw : ∀ d ∈ tables_1, d.before a0 Z = true) (ws : List Jvm.Cond) (r0 : Addr) (x3 : Int32) (x4 : Int64) (y0 y1 y2 : Int64) (x4i : Int32) (h0 : Heap) (n0 : Nat)  (A : own_A Z h0 r0 .long [(.long y0), (.long y1), (.long y2)]) (g : n0 ≤ r0) (hx4 : x4 = x4i.toInt64) :
    own_Con l Z (⟨"com/example/poset/poset/core/Marking", "put", "([JZIIJ)V"⟩ : MethodName) prog_47_method_14_code 6 none ws ({ frames := 0, cells := 0, slots := 0, locals := 0 } : Room) #[(.ref r0), (.int (0 : Int32)), (.int (1 : Int32)), (.int x3), (.long x4)] h0 n0 (own_Q_own_rm2_3_1 Z r0 x3 y0 y1 y2 x4i h0 n0) := by
  refine own_body (plainFor_of_name own_pn0) ?_
  intro p e s m below meth c T0 hx hZ hby hml hown hnm hret hlk Y0
  replace hown : s.vm.findClass "com/example/poset/poset/core/Marking" = some m.cls := hown
  replace hnm : meth.name = "put" := hnm
  rw [own_ef_own_rm2_3_1 m r0 x3 x4]
  show own_Ends _ _ _ _ (T0.setTop (mkF m 0 #[.val (.ref r0), .val (.int (0 : Int32)), .val (.int (1 : Int32)), .val (.int x3), .val (.long x4), .second] []))
  refine own_st (fun t_ => XS.iloadN (own_here Y0) hx rfl (hb hby own_d2_0) rfl) ?_
  show own_Ends _ _ _ _ (T0.setTop (mkF m 1 #[.val (.ref r0), .val (.int (0 : Int32)), .val (.int (1 : Int32)), .val (.int x3), .val (.long x4), .second] [(.int (0 : Int32))]))
  refine own_st (fun t_ => XS.ifYes (own_here Y0) hx rfl (pc0 := 1) (pc' := 23) rfl (hb hby own_d2_1) rfl (XT.i0_eq_t (by decide)) (by decide) (by decide)) ?_
  show own_Ends _ _ _ _ (T0.setTop (mkF m 23 #[.val (.ref r0), .val (.int (0 : Int32)), .val (.int (1 : Int32)), .val (.int x3), .val (.long x4), .second] []))
  refine own_st (fun t_ => XS.aloadN (own_here Y0) hx rfl (hb hby own_d2_23) rfl rfl) ?_
  show own_Ends _ _ _ _ (T0.setTop (mkF m 24 #[.val (.ref r0), .val (.int (0 : Int32)), .val (.int (1 : Int32)), .val (.int x3), .val (.long x4), .second] [(.ref r0)]))
  refine own_st (fun t_ => XS.iloadN (own_here Y0) hx rfl (hb hby own_d2_24) rfl) ?_
  show own_Ends _ _ _ _ (T0.setTop (mkF m 25 #[.val (.ref r0), .val (.int (0 : Int32)), .val (.int (1 : Int32)), .val (.int x3), .val (.long x4), .second] [(.int (1 : Int32)), (.ref r0)]))
  refine own_st (fun t_ => XS.iloadN (own_here Y0) hx rfl (hb hby own_d2_25) rfl) ?_
  show own_Ends _ _ _ _ (T0.setTop (mkF m 26 #[.val (.ref r0), .val (.int (0 : Int32)), .val (.int (1 : Int32)), .val (.int x3), .val (.long x4), .second] [(.int x3), (.int (1 : Int32)), (.ref r0)]))
  refine own_st (fun t_ => XS.i2l (own_here Y0) hx rfl (hb hby own_d2_26) rfl) ?_
  show own_Ends _ _ _ _ (T0.setTop (mkF m 27 #[.val (.ref r0), .val (.int (0 : Int32)), .val (.int (1 : Int32)), .val (.int x3), .val (.long x4), .second] [(.long (x3.toInt64)), (.int (1 : Int32)), (.ref r0)]))
  refine own_st (fun t_ => XS.bipush (own_here Y0) hx rfl (hb hby own_d2_27) ) ?_
  show own_Ends _ _ _ _ (T0.setTop (mkF m 29 #[.val (.ref r0), .val (.int (0 : Int32)), .val (.int (1 : Int32)), .val (.int x3), .val (.long x4), .second] [(.int (32 : Int32)), (.long (x3.toInt64)), (.int (1 : Int32)), (.ref r0)]))
  refine own_st (fun t_ => XS.lshl (own_here Y0) hx rfl (hb hby own_d2_29) rfl) ?_
  show own_Ends _ _ _ _ (T0.setTop (mkF m 30 #[.val (.ref r0), .val (.int (0 : Int32)), .val (.int (1 : Int32)), .val (.int x3), .val (.long x4), .second] [(.long ((x3.toInt64) <<< ((32 : Int32) &&& 0x3f).toInt64)), (.int (1 : Int32)), (.ref r0)]))
  refine own_st (fun t_ => XS.lload (own_here Y0) hx rfl (hb hby own_d2_30) rfl) ?_
  show own_Ends _ _ _ _ (T0.setTop (mkF m 32 #[.val (.ref r0), .val (.int (0 : Int32)), .val (.int (1 : Int32)), .val (.int x3), .val (.long x4), .second] [(.long x4), (.long ((x3.toInt64) <<< ((32 : Int32) &&& 0x3f).toInt64)), (.int (1 : Int32)), (.ref r0)]))
  refine own_st (fun t_ => XS.lor (own_here Y0) hx rfl (hb hby own_d2_32) rfl) ?_
  show own_Ends _ _ _ _ (T0.setTop (mkF m 33 #[.val (.ref r0), .val (.int (0 : Int32)), .val (.int (1 : Int32)), .val (.int x3), .val (.long x4), .second] [(.long (((x3.toInt64) <<< ((32 : Int32) &&& 0x3f).toInt64) ||| x4)), (.int (1 : Int32)), (.ref r0)]))
  refine own_stJ Y0 hx hZ A g (i := 1) (by decide) (by decide) (Nat.le_of_ble_eq_true rfl) rfl rfl (hb hby own_d2_33) (fun T126 h128 Y127 W129 A130 => ?_)
  replace A130 : own_A Z h128 r0 .long [(.long y0), (.long (((x3.toInt64) <<< ((32 : Int32) &&& 0x3f).toInt64) ||| x4)), (.long y2)] := A130
  show own_Ends _ _ _ _ (T126.setTop (mkF m 34 #[.val (.ref r0), .val (.int (0 : Int32)), .val (.int (1 : Int32)), .val (.int x3), .val (.long x4), .second] []))
  have K131 : Keep h0 h128 [r0] := (Keep.refl h0 [r0]).wr W129 (Or.inl (List.mem_of_getElem? (i := 0) rfl))
  refine own_retV Y127 hx hlk hret (hb hby own_d2_34) (by decide) (by decide) ?_
  subst hx4
  exact ⟨rfl, K131, A130⟩
theorem own_ef_own_rm2_3_2 (m : MethodId) (r0 : Addr) (x3 : Int32) (x4 : Int64) : entryFrame m #[(.ref r0), (.int (0 : Int32)), (.int (2 : Int32)), (.int x3), (.long x4)] 6 = mkF m 0 #[.val (.ref r0), .val (.int (0 : Int32)), .val (.int (2 : Int32)), .val (.int x3), .val (.long x4), .second] [] := by first | (simp [entryFrame, mkF, argsToLocals, Value.category]; done) | rfl
def own_Q_own_rm2_3_2 (Z : State) (r0 : Addr) (x3 : Int32) (y0 y1 y2 : Int64) (x4i : Int32) (h0 : Heap) (n0 : Nat) (v : Option Value) (h : Heap) : Prop := v = none ∧ Keep h0 h [r0] ∧ own_A Z h r0 .long [(.long y0), (.long y1), (.long (own_E x3 x4i))]
set_option maxRecDepth 65536 in
set_option maxHeartbeats 40000000 in
theorem own_rm2_3_2 (l : Launch) (Z : State) (a0 : Array Value) (hw : ∀ d ∈ tables_1, d.before a0 Z = true) (ws : List Jvm.Cond) (r0 : Addr) (x3 : Int32) (x4 : Int64) (y0 y1 y2 : Int64) (x4i : Int32) (h0 : Heap) (n0 : Nat)  (A : own_A Z h0 r0 .long [(.long y0), (.long y1), (.long y2)]) (g : n0 ≤ r0) (hx4 : x4 = x4i.toInt64) :
    own_Con l Z (⟨"com/example/poset/poset/core/Marking", "put", "([JZIIJ)V"⟩ : MethodName) prog_47_method_14_code 6 none ws ({ frames := 0, cells := 0, slots := 0, locals := 0 } : Room) #[(.ref r0), (.int (0 : Int32)), (.int (2 : Int32)), (.int x3), (.long x4)] h0 n0 (own_Q_own_rm2_3_2 Z r0 x3 y0 y1 y2 x4i h0 n0) := by
  refine own_body (plainFor_of_name own_pn0) ?_
  intro p e s m below meth c T0 hx hZ hby hml hown hnm hret hlk Y0
  replace hown : s.vm.findClass "com/example/poset/poset/core/Marking" = some m.cls := hown
  replace hnm : meth.name = "put" := hnm
  rw [own_ef_own_rm2_3_2 m r0 x3 x4]
  show own_Ends _ _ _ _ (T0.setTop (mkF m 0 #[.val (.ref r0), .val (.int (0 : Int32)), .val (.int (2 : Int32)), .val (.int x3), .val (.long x4), .second] []))
  refine own_st (fun t_ => XS.iloadN (own_here Y0) hx rfl (hb hby own_d2_0) rfl) ?_
  show own_Ends _ _ _ _ (T0.setTop (mkF m 1 #[.val (.ref r0), .val (.int (0 : Int32)), .val (.int (2 : Int32)), .val (.int x3), .val (.long x4), .second] [(.int (0 : Int32))]))
  refine own_st (fun t_ => XS.ifYes (own_here Y0) hx rfl (pc0 := 1) (pc' := 23) rfl (hb hby own_d2_1) rfl (XT.i0_eq_t (by decide)) (by decide) (by decide)) ?_
  show own_Ends _ _ _ _ (T0.setTop (mkF m 23 #[.val (.ref r0), .val (.int (0 : Int32)), .val (.int (2 : Int32)), .val (.int x3), .val (.long x4), .second] []))
  refine own_st (fun t_ => XS.aloadN (own_here Y0) hx rfl (hb hby own_d2_23) rfl rfl) ?_
  show own_Ends _ _ _ _ (T0.setTop (mkF m 24 #[.val (.ref r0), .val (.int (0 : Int32)), .val (.int (2 : Int32)), .val (.int x3), .val (.long x4), .second] [(.ref r0)]))
  refine own_st (fun t_ => XS.iloadN (own_here Y0) hx rfl (hb hby own_d2_24) rfl) ?_
  show own_Ends _ _ _ _ (T0.setTop (mkF m 25 #[.val (.ref r0), .val (.int (0 : Int32)), .val (.int (2 : Int32)), .val (.int x3), .val (.long x4), .second] [(.int (2 : Int32)), (.ref r0)]))
  refine own_st (fun t_ => XS.iloadN (own_here Y0) hx rfl (hb hby own_d2_25) rfl) ?_
  show own_Ends _ _ _ _ (T0.setTop (mkF m 26 #[.val (.ref r0), .val (.int (0 : Int32)), .val (.int (2 : Int32)), .val (.int x3), .val (.long x4), .second] [(.int x3), (.int (2 : Int32)), (.ref r0)]))
  refine own_st (fun t_ => XS.i2l (own_here Y0) hx rfl (hb hby own_d2_26) rfl) ?_
  show own_Ends _ _ _ _ (T0.setTop (mkF m 27 #[.val (.ref r0), .val (.int (0 : Int32)), .val (.int (2 : Int32)), .val (.int x3), .val (.long x4), .second] [(.long (x3.toInt64)), (.int (2 : Int32)), (.ref r0)]))
  refine own_st (fun t_ => XS.bipush (own_here Y0) hx rfl (hb hby own_d2_27) ) ?_
  show own_Ends _ _ _ _ (T0.setTop (mkF m 29 #[.val (.ref r0), .val (.int (0 : Int32)), .val (.int (2 : Int32)), .val (.int x3), .val (.long x4), .second] [(.int (32 : Int32)), (.long (x3.toInt64)), (.int (2 : Int32)), (.ref r0)]))
  refine own_st (fun t_ => XS.lshl (own_here Y0) hx rfl (hb hby own_d2_29) rfl) ?_
  show own_Ends _ _ _ _ (T0.setTop (mkF m 30 #[.val (.ref r0), .val (.int (0 : Int32)), .val (.int (2 : Int32)), .val (.int x3), .val (.long x4), .second] [(.long ((x3.toInt64) <<< ((32 : Int32) &&& 0x3f).toInt64)), (.int (2 : Int32)), (.ref r0)]))
  refine own_st (fun t_ => XS.lload (own_here Y0) hx rfl (hb hby own_d2_30) rfl) ?_
  show own_Ends _ _ _ _ (T0.setTop (mkF m 32 #[.val (.ref r0), .val (.int (0 : Int32)), .val (.int (2 : Int32)), .val (.int x3), .val (.long x4), .second] [(.long x4), (.long ((x3.toInt64) <<< ((32 : Int32) &&& 0x3f).toInt64)), (.int (2 : Int32)), (.ref r0)]))
  refine own_st (fun t_ => XS.lor (own_here Y0) hx rfl (hb hby own_d2_32) rfl) ?_
  show own_Ends _ _ _ _ (T0.setTop (mkF m 33 #[.val (.ref r0), .val (.int (0 : Int32)), .val (.int (2 : Int32)), .val (.int x3), .val (.long x4), .second] [(.long (((x3.toInt64) <<< ((32 : Int32) &&& 0x3f).toInt64) ||| x4)), (.int (2 : Int32)), (.ref r0)]))
  refine own_stJ Y0 hx hZ A g (i := 2) (by decide) (by decide) (Nat.le_of_ble_eq_true rfl) rfl rfl (hb hby own_d2_33) (fun T132 h134 Y133 W135 A136 => ?_)
  replace A136 : own_A Z h134 r0 .long [(.long y0), (.long y1), (.long (((x3.toInt64) <<< ((32 : Int32) &&& 0x3f).toInt64) ||| x4))] := A136
  show own_Ends _ _ _ _ (T132.setTop (mkF m 34 #[.val (.ref r0), .val (.int (0 : Int32)), .val (.int (2 : Int32)), .val (.int x3), .val (.long x4), .second] []))
  have K137 : Keep h0 h134 [r0] := (Keep.refl h0 [r0]).wr W135 (Or.inl (List.mem_of_getElem? (i := 0) rfl))
  refine own_retV Y133 hx hlk hret (hb hby own_d2_34) (by decide) (by decide) ?_
  subst hx4
  exact ⟨rfl, K137, A136⟩
theorem own_pd5 : parseMethodDescriptor "([JZIIJ)V" = some ⟨[(.array .long), .boolean, .int, .int, .long], none⟩ := by decide +kernel
theorem own_pd6 : parseMethodDescriptor "(JJ)J" = some ⟨[.long, .long], some .long⟩ := by decide +kernel
theorem own_pd7 : parseMethodDescriptor "(I[JZJ)V" = some ⟨[.int, (.array .long), .boolean, .long], none⟩ := by decide +kernel
theorem own_d1_0 : decode prog_47_method_2_code 0 = .ok (.iconst 0, 1) := by decide +kernel
theorem own_d1_1 : decode prog_47_method_2_code 1 = .ok (.istore_n 1, 1) := by decide +kernel
theorem own_d1_2 : decode prog_47_method_2_code 2 = .ok (.aload_n 0, 1) := by decide +kernel
theorem own_d1_3 : decode prog_47_method_2_code 3 = .ok (.astore_n 2, 1) := by decide +kernel
theorem own_d1_4 : decode prog_47_method_2_code 4 = .ok (.aload_n 2, 1) := by decide +kernel
theorem own_d1_5 : decode prog_47_method_2_code 5 = .ok (.arraylength, 1) := by decide +kernel
theorem own_d1_6 : decode prog_47_method_2_code 6 = .ok (.istore_n 3, 1) := by decide +kernel
theorem own_d1_7 : decode prog_47_method_2_code 7 = .ok (.iconst 0, 1) := by decide +kernel
theorem own_d1_8 : decode prog_47_method_2_code 8 = .ok (.istore 4, 2) := by decide +kernel
theorem own_d1_10 : decode prog_47_method_2_code 10 = .ok (.iload 4, 2) := by decide +kernel
theorem own_d1_12 : decode prog_47_method_2_code 12 = .ok (.iload_n 3, 1) := by decide +kernel
theorem own_d1_13 : decode prog_47_method_2_code 13 = .ok (.if_icmp .ge 23, 3) := by decide +kernel
theorem own_d1_16 : decode prog_47_method_2_code 16 = .ok (.aload_n 2, 1) := by decide +kernel
theorem own_d1_17 : decode prog_47_method_2_code 17 = .ok (.iload 4, 2) := by decide +kernel
theorem own_d1_19 : decode prog_47_method_2_code 19 = .ok (.iaload, 1) := by decide +kernel
theorem own_d1_20 : decode prog_47_method_2_code 20 = .ok (.istore 5, 2) := by decide +kernel
theorem own_d1_22 : decode prog_47_method_2_code 22 = .ok (.iload 5, 2) := by decide +kernel
theorem own_d1_24 : decode prog_47_method_2_code 24 = .ok (.ifCond .le 6, 3) := by decide +kernel
theorem own_d1_27 : decode prog_47_method_2_code 27 = .ok (.iinc 1 1, 3) := by decide +kernel
theorem own_d1_30 : decode prog_47_method_2_code 30 = .ok (.iinc 4 1, 3) := by decide +kernel
theorem own_d1_33 : decode prog_47_method_2_code 33 = .ok (.goto (-23), 3) := by decide +kernel
theorem own_d1_36 : decode prog_47_method_2_code 36 = .ok (.iload_n 1, 1) := by decide +kernel
theorem own_d1_37 : decode prog_47_method_2_code 37 = .ok (.newarray .long, 2) := by decide +kernel
theorem own_d1_39 : decode prog_47_method_2_code 39 = .ok (.astore_n 2, 1) := by decide +kernel
theorem own_d1_40 : decode prog_47_method_2_code 40 = .ok (.lconst 0, 1) := by decide +kernel
theorem own_d1_41 : decode prog_47_method_2_code 41 = .ok (.lstore_n 3, 1) := by decide +kernel
theorem own_d1_42 : decode prog_47_method_2_code 42 = .ok (.iconst 0, 1) := by decide +kernel
theorem own_d1_43 : decode prog_47_method_2_code 43 = .ok (.istore 5, 2) := by decide +kernel
theorem own_d1_45 : decode prog_47_method_2_code 45 = .ok (.iconst 0, 1) := by decide +kernel
theorem own_d1_46 : decode prog_47_method_2_code 46 = .ok (.istore 6, 2) := by decide +kernel
theorem own_d1_48 : decode prog_47_method_2_code 48 = .ok (.iload 6, 2) := by decide +kernel
theorem own_d1_50 : decode prog_47_method_2_code 50 = .ok (.aload_n 0, 1) := by decide +kernel
theorem own_d1_51 : decode prog_47_method_2_code 51 = .ok (.arraylength, 1) := by decide +kernel
theorem own_d1_52 : decode prog_47_method_2_code 52 = .ok (.if_icmp .ge 47, 3) := by decide +kernel
theorem own_d1_55 : decode prog_47_method_2_code 55 = .ok (.aload_n 0, 1) := by decide +kernel
theorem own_d1_56 : decode prog_47_method_2_code 56 = .ok (.iload 6, 2) := by decide +kernel
theorem own_d1_58 : decode prog_47_method_2_code 58 = .ok (.iaload, 1) := by decide +kernel
theorem own_d1_59 : decode prog_47_method_2_code 59 = .ok (.ifCond .le 34, 3) := by decide +kernel
theorem own_d1_62 : decode prog_47_method_2_code 62 = .ok (.aload_n 2, 1) := by decide +kernel
theorem own_d1_63 : decode prog_47_method_2_code 63 = .ok (.iconst 0, 1) := by decide +kernel
theorem own_d1_64 : decode prog_47_method_2_code 64 = .ok (.iload 5, 2) := by decide +kernel
theorem own_d1_66 : decode prog_47_method_2_code 66 = .ok (.iinc 5 1, 3) := by decide +kernel
theorem own_d1_69 : decode prog_47_method_2_code 69 = .ok (.iload 6, 2) := by decide +kernel
theorem own_d1_71 : decode prog_47_method_2_code 71 = .ok (.aload_n 0, 1) := by decide +kernel
theorem own_d1_72 : decode prog_47_method_2_code 72 = .ok (.iload 6, 2) := by decide +kernel
theorem own_d1_74 : decode prog_47_method_2_code 74 = .ok (.iaload, 1) := by decide +kernel
theorem own_d1_75 : decode prog_47_method_2_code 75 = .ok (.i2l, 1) := by decide +kernel
theorem own_d1_76 : decode prog_47_method_2_code 76 = .ok (.invokestatic 25, 3) := by decide +kernel
theorem own_d1_79 : decode prog_47_method_2_code 79 = .ok (.lload_n 3, 1) := by decide +kernel
theorem own_d1_80 : decode prog_47_method_2_code 80 = .ok (.iload 6, 2) := by decide +kernel
theorem own_d1_82 : decode prog_47_method_2_code 82 = .ok (.i2l, 1) := by decide +kernel
theorem own_d1_83 : decode prog_47_method_2_code 83 = .ok (.aload_n 0, 1) := by decide +kernel
theorem own_d1_84 : decode prog_47_method_2_code 84 = .ok (.iload 6, 2) := by decide +kernel
theorem own_d1_86 : decode prog_47_method_2_code 86 = .ok (.iaload, 1) := by decide +kernel
theorem own_d1_87 : decode prog_47_method_2_code 87 = .ok (.i2l, 1) := by decide +kernel
theorem own_d1_88 : decode prog_47_method_2_code 88 = .ok (.invokestatic 29, 3) := by decide +kernel
theorem own_d1_91 : decode prog_47_method_2_code 91 = .ok (.ladd, 1) := by decide +kernel
theorem own_d1_92 : decode prog_47_method_2_code 92 = .ok (.lstore_n 3, 1) := by decide +kernel
theorem own_d1_93 : decode prog_47_method_2_code 93 = .ok (.iinc 6 1, 3) := by decide +kernel
theorem own_d1_96 : decode prog_47_method_2_code 96 = .ok (.goto (-48), 3) := by decide +kernel
theorem own_d1_99 : decode prog_47_method_2_code 99 = .ok (.new 8, 3) := by decide +kernel
theorem own_d1_102 : decode prog_47_method_2_code 102 = .ok (.dup, 1) := by decide +kernel
theorem own_d1_103 : decode prog_47_method_2_code 103 = .ok (.aload_n 0, 1) := by decide +kernel
theorem own_d1_104 : decode prog_47_method_2_code 104 = .ok (.arraylength, 1) := by decide +kernel
theorem own_d1_105 : decode prog_47_method_2_code 105 = .ok (.aload_n 2, 1) := by decide +kernel
theorem own_d1_106 : decode prog_47_method_2_code 106 = .ok (.iconst 0, 1) := by decide +kernel
theorem own_d1_107 : decode prog_47_method_2_code 107 = .ok (.lload_n 3, 1) := by decide +kernel
theorem own_d1_108 : decode prog_47_method_2_code 108 = .ok (.invokespecial 33, 3) := by decide +kernel
theorem own_d1_111 : decode prog_47_method_2_code 111 = .ok (.areturn, 1) := by decide +kernel
theorem own_ef_own_rm1 (m : MethodId) (r0 : Addr) : entryFrame m #[(.ref r0)] 7 = mkF m 0 #[.val (.ref r0), .unset, .unset, .unset, .unset, .unset, .unset] [] := by first | (simp [entryFrame, mkF, argsToLocals, Value.category]; done) | rfl
def own_Q_own_rm1 (Z : State) (t0 t1 t2 : Int32) (h0 : Heap) (n0 : Nat) (v : Option Value) (h : Heap) : Prop := ∃ r a : Addr, v = some (.ref r) ∧ n0 ≤ h.size ∧ Exa Z h r "com/example/poset/poset/core/Marking" ∧ Fld Z h r "com/example/poset/poset/core/Marking" "size" "I" (.int 3) ∧ Fld Z h r "com/example/poset/poset/core/Marking" "entries" "[J" (.ref a) ∧ Fld Z h r "com/example/poset/poset/core/Marking" "wide" "Z" (.int 0) ∧ own_A Z h a .long ((own_es t0 t1 t2).map Value.long)
set_option maxRecDepth 65536 in
set_option maxHeartbeats 40000000 in
theorem own_rm1 (l : Launch) (Z : State) (a0 : Array Value) (hw : ∀ d ∈ tables_1, d.before a0 Z = true) (ws : List Jvm.Cond) (r0 : Addr) (t0 t1 t2 : Int32) (h0 : Heap) (n0 : Nat) (Z0 : n0 ≤ h0.size) (A : own_A Z h0 r0 .int [(.int t0), (.int t1), (.int t2)]) (g : n0 ≤ r0) :
    own_Con l Z (⟨"com/example/poset/poset/core/Marking", "of", "([I)Lcom/example/poset/poset/core/Marking;"⟩ : MethodName) prog_47_method_2_code 7 (some (.object "com/example/poset/poset/core/Marking")) ws ({ frames := 2, cells := 2, slots := 7, locals := 30 } : Room) #[(.ref r0)] h0 n0 (own_Q_own_rm1 Z t0 t1 t2 h0 n0) := by
  refine own_body (plainFor_of_name own_pn0) ?_
  intro p e s m below meth c T0 hx hZ hby hml hown hnm hret hlk Y0
  replace hown : s.vm.findClass "com/example/poset/poset/core/Marking" = some m.cls := hown
  replace hnm : meth.name = "of" := hnm
  rw [own_ef_own_rm1 m r0]
  show own_Ends _ _ _ _ (T0.setTop (mkF m 0 #[.val (.ref r0), .unset, .unset, .unset, .unset, .unset, .unset] []))
  refine own_st (fun t_ => XS.iconst (own_here Y0) hx rfl (hb hby own_d1_0) ) ?_
  show own_Ends _ _ _ _ (T0.setTop (mkF m 1 #[.val (.ref r0), .unset, .unset, .unset, .unset, .unset, .unset] [(.int (0 : Int32))]))
  refine own_st (fun t_ => XS.istoreN (own_here Y0) hx rfl (hb hby own_d1_1) rfl (l' := #[.val (.ref r0), .val (.int (0 : Int32)), .unset, .unset, .unset, .unset, .unset]) rfl) ?_
  show own_Ends _ _ _ _ (T0.setTop (mkF m 2 #[.val (.ref r0), .val (.int (0 : Int32)), .unset, .unset, .unset, .unset, .unset] []))
  refine own_st (fun t_ => XS.aloadN (own_here Y0) hx rfl (hb hby own_d1_2) rfl rfl) ?_
  show own_Ends _ _ _ _ (T0.setTop (mkF m 3 #[.val (.ref r0), .val (.int (0 : Int32)), .unset, .unset, .unset, .unset, .unset] [(.ref r0)]))
  refine own_st (fun t_ => XS.astoreN (own_here Y0) hx rfl (hb hby own_d1_3) rfl rfl (l' := #[.val (.ref r0), .val (.int (0 : Int32)), .val (.ref r0), .unset, .unset, .unset, .unset]) rfl) ?_
  show own_Ends _ _ _ _ (T0.setTop (mkF m 4 #[.val (.ref r0), .val (.int (0 : Int32)), .val (.ref r0), .unset, .unset, .unset, .unset] []))
  refine own_st (fun t_ => XS.aloadN (own_here Y0) hx rfl (hb hby own_d1_4) rfl rfl) ?_
  show own_Ends _ _ _ _ (T0.setTop (mkF m 5 #[.val (.ref r0), .val (.int (0 : Int32)), .val (.ref r0), .unset, .unset, .unset, .unset] [(.ref r0)]))
  refine own_len Y0 hx hZ A (z := (3 : Int32)) rfl rfl rfl (hb hby own_d1_5) ?_
  show own_Ends _ _ _ _ (T0.setTop (mkF m 6 #[.val (.ref r0), .val (.int (0 : Int32)), .val (.ref r0), .unset, .unset, .unset, .unset] [(.int (3 : Int32))]))
  refine own_st (fun t_ => XS.istoreN (own_here Y0) hx rfl (hb hby own_d1_6) rfl (l' := #[.val (.ref r0), .val (.int (0 : Int32)), .val (.ref r0), .val (.int (3 : Int32)), .unset, .unset, .unset]) rfl) ?_
  show own_Ends _ _ _ _ (T0.setTop (mkF m 7 #[.val (.ref r0), .val (.int (0 : Int32)), .val (.ref r0), .val (.int (3 : Int32)), .unset, .unset, .unset] []))
  refine own_st (fun t_ => XS.iconst (own_here Y0) hx rfl (hb hby own_d1_7) ) ?_
  show own_Ends _ _ _ _ (T0.setTop (mkF m 8 #[.val (.ref r0), .val (.int (0 : Int32)), .val (.ref r0), .val (.int (3 : Int32)), .unset, .unset, .unset] [(.int (0 : Int32))]))
  refine own_st (fun t_ => XS.istore (own_here Y0) hx rfl (hb hby own_d1_8) rfl (l' := #[.val (.ref r0), .val (.int (0 : Int32)), .val (.ref r0), .val (.int (3 : Int32)), .val (.int (0 : Int32)), .unset, .unset]) rfl) ?_
  show own_Ends _ _ _ _ (T0.setTop (mkF m 10 #[.val (.ref r0), .val (.int (0 : Int32)), .val (.ref r0), .val (.int (3 : Int32)), .val (.int (0 : Int32)), .unset, .unset] []))
  refine own_st (fun t_ => XS.iload (own_here Y0) hx rfl (hb hby own_d1_10) rfl) ?_
  show own_Ends _ _ _ _ (T0.setTop (mkF m 12 #[.val (.ref r0), .val (.int (0 : Int32)), .val (.ref r0), .val (.int (3 : Int32)), .val (.int (0 : Int32)), .unset, .unset] [(.int (0 : Int32))]))
  refine own_st (fun t_ => XS.iloadN (own_here Y0) hx rfl (hb hby own_d1_12) rfl) ?_
  show own_Ends _ _ _ _ (T0.setTop (mkF m 13 #[.val (.ref r0), .val (.int (0 : Int32)), .val (.ref r0), .val (.int (3 : Int32)), .val (.int (0 : Int32)), .unset, .unset] [(.int (3 : Int32)), (.int (0 : Int32))]))
  refine own_st (fun t_ => XS.icmpNo (own_here Y0) hx rfl (hb hby own_d1_13) rfl (XT.ii_ge_f (by decide))) ?_
  show own_Ends _ _ _ _ (T0.setTop (mkF m 16 #[.val (.ref r0), .val (.int (0 : Int32)), .val (.ref r0), .val (.int (3 : Int32)), .val (.int (0 : Int32)), .unset, .unset] []))
  refine own_st (fun t_ => XS.aloadN (own_here Y0) hx rfl (hb hby own_d1_16) rfl rfl) ?_
  show own_Ends _ _ _ _ (T0.setTop (mkF m 17 #[.val (.ref r0), .val (.int (0 : Int32)), .val (.ref r0), .val (.int (3 : Int32)), .val (.int (0 : Int32)), .unset, .unset] [(.ref r0)]))
  refine own_st (fun t_ => XS.iload (own_here Y0) hx rfl (hb hby own_d1_17) rfl) ?_
  show own_Ends _ _ _ _ (T0.setTop (mkF m 19 #[.val (.ref r0), .val (.int (0 : Int32)), .val (.ref r0), .val (.int (3 : Int32)), .val (.int (0 : Int32)), .unset, .unset] [(.int (0 : Int32)), (.ref r0)]))
  refine own_ldI Y0 hx hZ A (i := 0) (by decide) (by decide) (Nat.le_of_ble_eq_true rfl) (v := (.int t0)) rfl rfl rfl (hb hby own_d1_19) ?_
  show own_Ends _ _ _ _ (T0.setTop (mkF m 20 #[.val (.ref r0), .val (.int (0 : Int32)), .val (.ref r0), .val (.int (3 : Int32)), .val (.int (0 : Int32)), .unset, .unset] [(.int t0)]))
  refine own_st (fun t_ => XS.istore (own_here Y0) hx rfl (hb hby own_d1_20) rfl (l' := #[.val (.ref r0), .val (.int (0 : Int32)), .val (.ref r0), .val (.int (3 : Int32)), .val (.int (0 : Int32)), .val (.int t0), .unset]) rfl) ?_
  show own_Ends _ _ _ _ (T0.setTop (mkF m 22 #[.val (.ref r0), .val (.int (0 : Int32)), .val (.ref r0), .val (.int (3 : Int32)), .val (.int (0 : Int32)), .val (.int t0), .unset] []))
  refine own_st (fun t_ => XS.iload (own_here Y0) hx rfl (hb hby own_d1_22) rfl) ?_
  show own_Ends _ _ _ _ (T0.setTop (mkF m 24 #[.val (.ref r0), .val (.int (0 : Int32)), .val (.ref r0), .val (.int (3 : Int32)), .val (.int (0 : Int32)), .val (.int t0), .unset] [(.int t0)]))
  by_cases c24_138 : (0 : Int32) < t0
  ·
   refine own_st (fun t_ => XS.ifNo (own_here Y0) hx rfl (hb hby own_d1_24) rfl (XT.i0_le_f c24_138)) ?_
   show own_Ends _ _ _ _ (T0.setTop (mkF m 27 #[.val (.ref r0), .val (.int (0 : Int32)), .val (.ref r0), .val (.int (3 : Int32)), .val (.int (0 : Int32)), .val (.int t0), .unset] []))
   refine own_st (fun t_ => XS.iinc (own_here Y0) hx rfl (hb hby own_d1_27) rfl (l' := #[.val (.ref r0), .val (.int (1 : Int32)), .val (.ref r0), .val (.int (3 : Int32)), .val (.int (0 : Int32)), .val (.int t0), .unset]) rfl) ?_
   show own_Ends _ _ _ _ (T0.setTop (mkF m 30 #[.val (.ref r0), .val (.int (1 : Int32)), .val (.ref r0), .val (.int (3 : Int32)), .val (.int (0 : Int32)), .val (.int t0), .unset] []))
   refine own_st (fun t_ => XS.iinc (own_here Y0) hx rfl (hb hby own_d1_30) rfl (l' := #[.val (.ref r0), .val (.int (1 : Int32)), .val (.ref r0), .val (.int (3 : Int32)), .val (.int (1 : Int32)), .val (.int t0), .unset]) rfl) ?_
   show own_Ends _ _ _ _ (T0.setTop (mkF m 33 #[.val (.ref r0), .val (.int (1 : Int32)), .val (.ref r0), .val (.int (3 : Int32)), .val (.int (1 : Int32)), .val (.int t0), .unset] []))
   refine own_st (fun t_ => XS.goto (own_here Y0) hx rfl (pc0 := 33) (pc' := 10) rfl (hb hby own_d1_33) (by decide) (by decide)) ?_
   show own_Ends _ _ _ _ (T0.setTop (mkF m 10 #[.val (.ref r0), .val (.int (1 : Int32)), .val (.ref r0), .val (.int (3 : Int32)), .val (.int (1 : Int32)), .val (.int t0), .unset] []))
   refine own_st (fun t_ => XS.iload (own_here Y0) hx rfl (hb hby own_d1_10) rfl) ?_
   show own_Ends _ _ _ _ (T0.setTop (mkF m 12 #[.val (.ref r0), .val (.int (1 : Int32)), .val (.ref r0), .val (.int (3 : Int32)), .val (.int (1 : Int32)), .val (.int t0), .unset] [(.int (1 : Int32))]))
   refine own_st (fun t_ => XS.iloadN (own_here Y0) hx rfl (hb hby own_d1_12) rfl) ?_
   show own_Ends _ _ _ _ (T0.setTop (mkF m 13 #[.val (.ref r0), .val (.int (1 : Int32)), .val (.ref r0), .val (.int (3 : Int32)), .val (.int (1 : Int32)), .val (.int t0), .unset] [(.int (3 : Int32)), (.int (1 : Int32))]))
   refine own_st (fun t_ => XS.icmpNo (own_here Y0) hx rfl (hb hby own_d1_13) rfl (XT.ii_ge_f (by decide))) ?_
   show own_Ends _ _ _ _ (T0.setTop (mkF m 16 #[.val (.ref r0), .val (.int (1 : Int32)), .val (.ref r0), .val (.int (3 : Int32)), .val (.int (1 : Int32)), .val (.int t0), .unset] []))
   refine own_st (fun t_ => XS.aloadN (own_here Y0) hx rfl (hb hby own_d1_16) rfl rfl) ?_
   show own_Ends _ _ _ _ (T0.setTop (mkF m 17 #[.val (.ref r0), .val (.int (1 : Int32)), .val (.ref r0), .val (.int (3 : Int32)), .val (.int (1 : Int32)), .val (.int t0), .unset] [(.ref r0)]))
   refine own_st (fun t_ => XS.iload (own_here Y0) hx rfl (hb hby own_d1_17) rfl) ?_
   show own_Ends _ _ _ _ (T0.setTop (mkF m 19 #[.val (.ref r0), .val (.int (1 : Int32)), .val (.ref r0), .val (.int (3 : Int32)), .val (.int (1 : Int32)), .val (.int t0), .unset] [(.int (1 : Int32)), (.ref r0)]))
   refine own_ldI Y0 hx hZ A (i := 1) (by decide) (by decide) (Nat.le_of_ble_eq_true rfl) (v := (.int t1)) rfl rfl rfl (hb hby own_d1_19) ?_
   show own_Ends _ _ _ _ (T0.setTop (mkF m 20 #[.val (.ref r0), .val (.int (1 : Int32)), .val (.ref r0), .val (.int (3 : Int32)), .val (.int (1 : Int32)), .val (.int t0), .unset] [(.int t1)]))
   refine own_st (fun t_ => XS.istore (own_here Y0) hx rfl (hb hby own_d1_20) rfl (l' := #[.val (.ref r0), .val (.int (1 : Int32)), .val (.ref r0), .val (.int (3 : Int32)), .val (.int (1 : Int32)), .val (.int t1), .unset]) rfl) ?_
   show own_Ends _ _ _ _ (T0.setTop (mkF m 22 #[.val (.ref r0), .val (.int (1 : Int32)), .val (.ref r0), .val (.int (3 : Int32)), .val (.int (1 : Int32)), .val (.int t1), .unset] []))
   refine own_st (fun t_ => XS.iload (own_here Y0) hx rfl (hb hby own_d1_22) rfl) ?_
   show own_Ends _ _ _ _ (T0.setTop (mkF m 24 #[.val (.ref r0), .val (.int (1 : Int32)), .val (.ref r0), .val (.int (3 : Int32)), .val (.int (1 : Int32)), .val (.int t1), .unset] [(.int t1)]))
   by_cases c24_139 : (0 : Int32) < t1
   ·
    refine own_st (fun t_ => XS.ifNo (own_here Y0) hx rfl (hb hby own_d1_24) rfl (XT.i0_le_f c24_139)) ?_
    show own_Ends _ _ _ _ (T0.setTop (mkF m 27 #[.val (.ref r0), .val (.int (1 : Int32)), .val (.ref r0), .val (.int (3 : Int32)), .val (.int (1 : Int32)), .val (.int t1), .unset] []))
    refine own_st (fun t_ => XS.iinc (own_here Y0) hx rfl (hb hby own_d1_27) rfl (l' := #[.val (.ref r0), .val (.int (2 : Int32)), .val (.ref r0), .val (.int (3 : Int32)), .val (.int (1 : Int32)), .val (.int t1), .unset]) rfl) ?_
    show own_Ends _ _ _ _ (T0.setTop (mkF m 30 #[.val (.ref r0), .val (.int (2 : Int32)), .val (.ref r0), .val (.int (3 : Int32)), .val (.int (1 : Int32)), .val (.int t1), .unset] []))
    refine own_st (fun t_ => XS.iinc (own_here Y0) hx rfl (hb hby own_d1_30) rfl (l' := #[.val (.ref r0), .val (.int (2 : Int32)), .val (.ref r0), .val (.int (3 : Int32)), .val (.int (2 : Int32)), .val (.int t1), .unset]) rfl) ?_
    show own_Ends _ _ _ _ (T0.setTop (mkF m 33 #[.val (.ref r0), .val (.int (2 : Int32)), .val (.ref r0), .val (.int (3 : Int32)), .val (.int (2 : Int32)), .val (.int t1), .unset] []))
    refine own_st (fun t_ => XS.goto (own_here Y0) hx rfl (pc0 := 33) (pc' := 10) rfl (hb hby own_d1_33) (by decide) (by decide)) ?_
    show own_Ends _ _ _ _ (T0.setTop (mkF m 10 #[.val (.ref r0), .val (.int (2 : Int32)), .val (.ref r0), .val (.int (3 : Int32)), .val (.int (2 : Int32)), .val (.int t1), .unset] []))
    refine own_st (fun t_ => XS.iload (own_here Y0) hx rfl (hb hby own_d1_10) rfl) ?_
    show own_Ends _ _ _ _ (T0.setTop (mkF m 12 #[.val (.ref r0), .val (.int (2 : Int32)), .val (.ref r0), .val (.int (3 : Int32)), .val (.int (2 : Int32)), .val (.int t1), .unset] [(.int (2 : Int32))]))
    refine own_st (fun t_ => XS.iloadN (own_here Y0) hx rfl (hb hby own_d1_12) rfl) ?_
    show own_Ends _ _ _ _ (T0.setTop (mkF m 13 #[.val (.ref r0), .val (.int (2 : Int32)), .val (.ref r0), .val (.int (3 : Int32)), .val (.int (2 : Int32)), .val (.int t1), .unset] [(.int (3 : Int32)), (.int (2 : Int32))]))
    refine own_st (fun t_ => XS.icmpNo (own_here Y0) hx rfl (hb hby own_d1_13) rfl (XT.ii_ge_f (by decide))) ?_
    show own_Ends _ _ _ _ (T0.setTop (mkF m 16 #[.val (.ref r0), .val (.int (2 : Int32)), .val (.ref r0), .val (.int (3 : Int32)), .val (.int (2 : Int32)), .val (.int t1), .unset] []))
    refine own_st (fun t_ => XS.aloadN (own_here Y0) hx rfl (hb hby own_d1_16) rfl rfl) ?_
    show own_Ends _ _ _ _ (T0.setTop (mkF m 17 #[.val (.ref r0), .val (.int (2 : Int32)), .val (.ref r0), .val (.int (3 : Int32)), .val (.int (2 : Int32)), .val (.int t1), .unset] [(.ref r0)]))
    refine own_st (fun t_ => XS.iload (own_here Y0) hx rfl (hb hby own_d1_17) rfl) ?_
    show own_Ends _ _ _ _ (T0.setTop (mkF m 19 #[.val (.ref r0), .val (.int (2 : Int32)), .val (.ref r0), .val (.int (3 : Int32)), .val (.int (2 : Int32)), .val (.int t1), .unset] [(.int (2 : Int32)), (.ref r0)]))
    refine own_ldI Y0 hx hZ A (i := 2) (by decide) (by decide) (Nat.le_of_ble_eq_true rfl) (v := (.int t2)) rfl rfl rfl (hb hby own_d1_19) ?_
    show own_Ends _ _ _ _ (T0.setTop (mkF m 20 #[.val (.ref r0), .val (.int (2 : Int32)), .val (.ref r0), .val (.int (3 : Int32)), .val (.int (2 : Int32)), .val (.int t1), .unset] [(.int t2)]))
    refine own_st (fun t_ => XS.istore (own_here Y0) hx rfl (hb hby own_d1_20) rfl (l' := #[.val (.ref r0), .val (.int (2 : Int32)), .val (.ref r0), .val (.int (3 : Int32)), .val (.int (2 : Int32)), .val (.int t2), .unset]) rfl) ?_
    show own_Ends _ _ _ _ (T0.setTop (mkF m 22 #[.val (.ref r0), .val (.int (2 : Int32)), .val (.ref r0), .val (.int (3 : Int32)), .val (.int (2 : Int32)), .val (.int t2), .unset] []))
    refine own_st (fun t_ => XS.iload (own_here Y0) hx rfl (hb hby own_d1_22) rfl) ?_
    show own_Ends _ _ _ _ (T0.setTop (mkF m 24 #[.val (.ref r0), .val (.int (2 : Int32)), .val (.ref r0), .val (.int (3 : Int32)), .val (.int (2 : Int32)), .val (.int t2), .unset] [(.int t2)]))
    by_cases c24_140 : (0 : Int32) < t2
    ·
     refine own_st (fun t_ => XS.ifNo (own_here Y0) hx rfl (hb hby own_d1_24) rfl (XT.i0_le_f c24_140)) ?_
     show own_Ends _ _ _ _ (T0.setTop (mkF m 27 #[.val (.ref r0), .val (.int (2 : Int32)), .val (.ref r0), .val (.int (3 : Int32)), .val (.int (2 : Int32)), .val (.int t2), .unset] []))
     refine own_st (fun t_ => XS.iinc (own_here Y0) hx rfl (hb hby own_d1_27) rfl (l' := #[.val (.ref r0), .val (.int (3 : Int32)), .val (.ref r0), .val (.int (3 : Int32)), .val (.int (2 : Int32)), .val (.int t2), .unset]) rfl) ?_
     show own_Ends _ _ _ _ (T0.setTop (mkF m 30 #[.val (.ref r0), .val (.int (3 : Int32)), .val (.ref r0), .val (.int (3 : Int32)), .val (.int (2 : Int32)), .val (.int t2), .unset] []))
     refine own_st (fun t_ => XS.iinc (own_here Y0) hx rfl (hb hby own_d1_30) rfl (l' := #[.val (.ref r0), .val (.int (3 : Int32)), .val (.ref r0), .val (.int (3 : Int32)), .val (.int (3 : Int32)), .val (.int t2), .unset]) rfl) ?_
     show own_Ends _ _ _ _ (T0.setTop (mkF m 33 #[.val (.ref r0), .val (.int (3 : Int32)), .val (.ref r0), .val (.int (3 : Int32)), .val (.int (3 : Int32)), .val (.int t2), .unset] []))
     refine own_st (fun t_ => XS.goto (own_here Y0) hx rfl (pc0 := 33) (pc' := 10) rfl (hb hby own_d1_33) (by decide) (by decide)) ?_
     show own_Ends _ _ _ _ (T0.setTop (mkF m 10 #[.val (.ref r0), .val (.int (3 : Int32)), .val (.ref r0), .val (.int (3 : Int32)), .val (.int (3 : Int32)), .val (.int t2), .unset] []))
     refine own_st (fun t_ => XS.iload (own_here Y0) hx rfl (hb hby own_d1_10) rfl) ?_
     show own_Ends _ _ _ _ (T0.setTop (mkF m 12 #[.val (.ref r0), .val (.int (3 : Int32)), .val (.ref r0), .val (.int (3 : Int32)), .val (.int (3 : Int32)), .val (.int t2), .unset] [(.int (3 : Int32))]))
     refine own_st (fun t_ => XS.iloadN (own_here Y0) hx rfl (hb hby own_d1_12) rfl) ?_
     show own_Ends _ _ _ _ (T0.setTop (mkF m 13 #[.val (.ref r0), .val (.int (3 : Int32)), .val (.ref r0), .val (.int (3 : Int32)), .val (.int (3 : Int32)), .val (.int t2), .unset] [(.int (3 : Int32)), (.int (3 : Int32))]))
     refine own_st (fun t_ => XS.icmpYes (own_here Y0) hx rfl (pc0 := 13) (pc' := 36) rfl (hb hby own_d1_13) rfl (XT.ii_ge_t (by decide)) (by decide) (by decide)) ?_
     show own_Ends _ _ _ _ (T0.setTop (mkF m 36 #[.val (.ref r0), .val (.int (3 : Int32)), .val (.ref r0), .val (.int (3 : Int32)), .val (.int (3 : Int32)), .val (.int t2), .unset] []))
     refine own_st (fun t_ => XS.iloadN (own_here Y0) hx rfl (hb hby own_d1_36) rfl) ?_
     show own_Ends _ _ _ _ (T0.setTop (mkF m 37 #[.val (.ref r0), .val (.int (3 : Int32)), .val (.ref r0), .val (.int (3 : Int32)), .val (.int (3 : Int32)), .val (.int t2), .unset] [(.int (3 : Int32))]))
     refine own_newP Y0 hx hZ (hw _ (List.mem_of_getElem? (i := 6) rfl)) rfl (hb hby own_d1_37) rfl (by decide) (nz := 3) (cap := 3) (by decide) (by decide) (by decide) (by decide) (by decide) (ty := .long) rfl (fun T141 h143 b146 eb147 Y142 E144 A145 => ?_)
     have ne148 : r0 ≠ b146 := Nat.ne_of_lt (by rw [eb147]; exact A.lt)
     have g149 : n0 ≤ b146 := by rw [eb147]; exact Z0
     replace A145 : own_A Z h143 b146 .long [(.long (0 : Int64)), (.long (0 : Int64)), (.long (0 : Int64))] := A145
     show own_Ends _ _ _ _ (T141.setTop (mkF m 39 #[.val (.ref r0), .val (.int (3 : Int32)), .val (.ref r0), .val (.int (3 : Int32)), .val (.int (3 : Int32)), .val (.int t2), .unset] [(.ref b146)]))
     refine own_st (fun t_ => XS.astoreN (own_here Y142) hx rfl (hb hby own_d1_39) rfl rfl (l' := #[.val (.ref r0), .val (.int (3 : Int32)), .val (.ref b146), .val (.int (3 : Int32)), .val (.int (3 : Int32)), .val (.int t2), .unset]) rfl) ?_
     show own_Ends _ _ _ _ (T141.setTop (mkF m 40 #[.val (.ref r0), .val (.int (3 : Int32)), .val (.ref b146), .val (.int (3 : Int32)), .val (.int (3 : Int32)), .val (.int t2), .unset] []))
     refine own_st (fun t_ => XS.lconst (own_here Y142) hx rfl (hb hby own_d1_40) ) ?_
     show own_Ends _ _ _ _ (T141.setTop (mkF m 41 #[.val (.ref r0), .val (.int (3 : Int32)), .val (.ref b146), .val (.int (3 : Int32)), .val (.int (3 : Int32)), .val (.int t2), .unset] [(.long (0 : Int64))]))
     refine own_st (fun t_ => XS.lstoreN (own_here Y142) hx rfl (hb hby own_d1_41) rfl (l' := #[.val (.ref r0), .val (.int (3 : Int32)), .val (.ref b146), .val (.long (0 : Int64)), .second, .val (.int t2), .unset]) rfl) ?_
     show own_Ends _ _ _ _ (T141.setTop (mkF m 42 #[.val (.ref r0), .val (.int (3 : Int32)), .val (.ref b146), .val (.long (0 : Int64)), .second, .val (.int t2), .unset] []))
     refine own_st (fun t_ => XS.iconst (own_here Y142) hx rfl (hb hby own_d1_42) ) ?_
     show own_Ends _ _ _ _ (T141.setTop (mkF m 43 #[.val (.ref r0), .val (.int (3 : Int32)), .val (.ref b146), .val (.long (0 : Int64)), .second, .val (.int t2), .unset] [(.int (0 : Int32))]))
     refine own_st (fun t_ => XS.istore (own_here Y142) hx rfl (hb hby own_d1_43) rfl (l' := #[.val (.ref r0), .val (.int (3 : Int32)), .val (.ref b146), .val (.long (0 : Int64)), .second, .val (.int (0 : Int32)), .unset]) rfl) ?_
     show own_Ends _ _ _ _ (T141.setTop (mkF m 45 #[.val (.ref r0), .val (.int (3 : Int32)), .val (.ref b146), .val (.long (0 : Int64)), .second, .val (.int (0 : Int32)), .unset] []))
     refine own_st (fun t_ => XS.iconst (own_here Y142) hx rfl (hb hby own_d1_45) ) ?_
     show own_Ends _ _ _ _ (T141.setTop (mkF m 46 #[.val (.ref r0), .val (.int (3 : Int32)), .val (.ref b146), .val (.long (0 : Int64)), .second, .val (.int (0 : Int32)), .unset] [(.int (0 : Int32))]))
     refine own_st (fun t_ => XS.istore (own_here Y142) hx rfl (hb hby own_d1_46) rfl (l' := #[.val (.ref r0), .val (.int (3 : Int32)), .val (.ref b146), .val (.long (0 : Int64)), .second, .val (.int (0 : Int32)), .val (.int (0 : Int32))]) rfl) ?_
     show own_Ends _ _ _ _ (T141.setTop (mkF m 48 #[.val (.ref r0), .val (.int (3 : Int32)), .val (.ref b146), .val (.long (0 : Int64)), .second, .val (.int (0 : Int32)), .val (.int (0 : Int32))] []))
     refine own_st (fun t_ => XS.iload (own_here Y142) hx rfl (hb hby own_d1_48) rfl) ?_
     show own_Ends _ _ _ _ (T141.setTop (mkF m 50 #[.val (.ref r0), .val (.int (3 : Int32)), .val (.ref b146), .val (.long (0 : Int64)), .second, .val (.int (0 : Int32)), .val (.int (0 : Int32))] [(.int (0 : Int32))]))
     refine own_st (fun t_ => XS.aloadN (own_here Y142) hx rfl (hb hby own_d1_50) rfl rfl) ?_
     show own_Ends _ _ _ _ (T141.setTop (mkF m 51 #[.val (.ref r0), .val (.int (3 : Int32)), .val (.ref b146), .val (.long (0 : Int64)), .second, .val (.int (0 : Int32)), .val (.int (0 : Int32))] [(.ref r0), (.int (0 : Int32))]))
     have f150 : own_A Z h143 r0 .int [(.int t0), (.int t1), (.int t2)] := A.ext E144
     refine own_len Y142 hx hZ f150 (z := (3 : Int32)) rfl rfl rfl (hb hby own_d1_51) ?_
     show own_Ends _ _ _ _ (T141.setTop (mkF m 52 #[.val (.ref r0), .val (.int (3 : Int32)), .val (.ref b146), .val (.long (0 : Int64)), .second, .val (.int (0 : Int32)), .val (.int (0 : Int32))] [(.int (3 : Int32)), (.int (0 : Int32))]))
     refine own_st (fun t_ => XS.icmpNo (own_here Y142) hx rfl (hb hby own_d1_52) rfl (XT.ii_ge_f (by decide))) ?_
     show own_Ends _ _ _ _ (T141.setTop (mkF m 55 #[.val (.ref r0), .val (.int (3 : Int32)), .val (.ref b146), .val (.long (0 : Int64)), .second, .val (.int (0 : Int32)), .val (.int (0 : Int32))] []))
     refine own_st (fun t_ => XS.aloadN (own_here Y142) hx rfl (hb hby own_d1_55) rfl rfl) ?_
     show own_Ends _ _ _ _ (T141.setTop (mkF m 56 #[.val (.ref r0), .val (.int (3 : Int32)), .val (.ref b146), .val (.long (0 : Int64)), .second, .val (.int (0 : Int32)), .val (.int (0 : Int32))] [(.ref r0)]))
     refine own_st (fun t_ => XS.iload (own_here Y142) hx rfl (hb hby own_d1_56) rfl) ?_
     show own_Ends _ _ _ _ (T141.setTop (mkF m 58 #[.val (.ref r0), .val (.int (3 : Int32)), .val (.ref b146), .val (.long (0 : Int64)), .second, .val (.int (0 : Int32)), .val (.int (0 : Int32))] [(.int (0 : Int32)), (.ref r0)]))
     refine own_ldI Y142 hx hZ f150 (i := 0) (by decide) (by decide) (Nat.le_of_ble_eq_true rfl) (v := (.int t0)) rfl rfl rfl (hb hby own_d1_58) ?_
     show own_Ends _ _ _ _ (T141.setTop (mkF m 59 #[.val (.ref r0), .val (.int (3 : Int32)), .val (.ref b146), .val (.long (0 : Int64)), .second, .val (.int (0 : Int32)), .val (.int (0 : Int32))] [(.int t0)]))
     refine own_st (fun t_ => XS.ifNo (own_here Y142) hx rfl (hb hby own_d1_59) rfl (XT.i0_le_f c24_138)) ?_
     show own_Ends _ _ _ _ (T141.setTop (mkF m 62 #[.val (.ref r0), .val (.int (3 : Int32)), .val (.ref b146), .val (.long (0 : Int64)), .second, .val (.int (0 : Int32)), .val (.int (0 : Int32))] []))
     refine own_st (fun t_ => XS.aloadN (own_here Y142) hx rfl (hb hby own_d1_62) rfl rfl) ?_
     show own_Ends _ _ _ _ (T141.setTop (mkF m 63 #[.val (.ref r0), .val (.int (3 : Int32)), .val (.ref b146), .val (.long (0 : Int64)), .second, .val (.int (0 : Int32)), .val (.int (0 : Int32))] [(.ref b146)]))
     refine own_st (fun t_ => XS.iconst (own_here Y142) hx rfl (hb hby own_d1_63) ) ?_
     show own_Ends _ _ _ _ (T141.setTop (mkF m 64 #[.val (.ref r0), .val (.int (3 : Int32)), .val (.ref b146), .val (.long (0 : Int64)), .second, .val (.int (0 : Int32)), .val (.int (0 : Int32))] [(.int (0 : Int32)), (.ref b146)]))
     refine own_st (fun t_ => XS.iload (own_here Y142) hx rfl (hb hby own_d1_64) rfl) ?_
     show own_Ends _ _ _ _ (T141.setTop (mkF m 66 #[.val (.ref r0), .val (.int (3 : Int32)), .val (.ref b146), .val (.long (0 : Int64)), .second, .val (.int (0 : Int32)), .val (.int (0 : Int32))] [(.int (0 : Int32)), (.int (0 : Int32)), (.ref b146)]))
     refine own_st (fun t_ => XS.iinc (own_here Y142) hx rfl (hb hby own_d1_66) rfl (l' := #[.val (.ref r0), .val (.int (3 : Int32)), .val (.ref b146), .val (.long (0 : Int64)), .second, .val (.int (1 : Int32)), .val (.int (0 : Int32))]) rfl) ?_
     show own_Ends _ _ _ _ (T141.setTop (mkF m 69 #[.val (.ref r0), .val (.int (3 : Int32)), .val (.ref b146), .val (.long (0 : Int64)), .second, .val (.int (1 : Int32)), .val (.int (0 : Int32))] [(.int (0 : Int32)), (.int (0 : Int32)), (.ref b146)]))
     refine own_st (fun t_ => XS.iload (own_here Y142) hx rfl (hb hby own_d1_69) rfl) ?_
     show own_Ends _ _ _ _ (T141.setTop (mkF m 71 #[.val (.ref r0), .val (.int (3 : Int32)), .val (.ref b146), .val (.long (0 : Int64)), .second, .val (.int (1 : Int32)), .val (.int (0 : Int32))] [(.int (0 : Int32)), (.int (0 : Int32)), (.int (0 : Int32)), (.ref b146)]))
     refine own_st (fun t_ => XS.aloadN (own_here Y142) hx rfl (hb hby own_d1_71) rfl rfl) ?_
     show own_Ends _ _ _ _ (T141.setTop (mkF m 72 #[.val (.ref r0), .val (.int (3 : Int32)), .val (.ref b146), .val (.long (0 : Int64)), .second, .val (.int (1 : Int32)), .val (.int (0 : Int32))] [(.ref r0), (.int (0 : Int32)), (.int (0 : Int32)), (.int (0 : Int32)), (.ref b146)]))
     refine own_st (fun t_ => XS.iload (own_here Y142) hx rfl (hb hby own_d1_72) rfl) ?_
     show own_Ends _ _ _ _ (T141.setTop (mkF m 74 #[.val (.ref r0), .val (.int (3 : Int32)), .val (.ref b146), .val (.long (0 : Int64)), .second, .val (.int (1 : Int32)), .val (.int (0 : Int32))] [(.int (0 : Int32)), (.ref r0), (.int (0 : Int32)), (.int (0 : Int32)), (.int (0 : Int32)), (.ref b146)]))
     refine own_ldI Y142 hx hZ f150 (i := 0) (by decide) (by decide) (Nat.le_of_ble_eq_true rfl) (v := (.int t0)) rfl rfl rfl (hb hby own_d1_74) ?_
     show own_Ends _ _ _ _ (T141.setTop (mkF m 75 #[.val (.ref r0), .val (.int (3 : Int32)), .val (.ref b146), .val (.long (0 : Int64)), .second, .val (.int (1 : Int32)), .val (.int (0 : Int32))] [(.int t0), (.int (0 : Int32)), (.int (0 : Int32)), (.int (0 : Int32)), (.ref b146)]))
     refine own_st (fun t_ => XS.i2l (own_here Y142) hx rfl (hb hby own_d1_75) rfl) ?_
     show own_Ends _ _ _ _ (T141.setTop (mkF m 76 #[.val (.ref r0), .val (.int (3 : Int32)), .val (.ref b146), .val (.long (0 : Int64)), .second, .val (.int (1 : Int32)), .val (.int (0 : Int32))] [(.long (t0.toInt64)), (.int (0 : Int32)), (.int (0 : Int32)), (.int (0 : Int32)), (.ref b146)]))
     refine own_callS Y142 hx hZ (y := (⟨"com/example/poset/poset/core/Marking", "put", "([JZIIJ)V"⟩ : MethodName)) hown (hw _ (List.mem_of_getElem? (i := 7) rfl)) (hw _ (List.mem_of_getElem? (i := 8) rfl)) (hw _ (List.mem_of_getElem? (i := 4) rfl)) (hw _ (List.mem_of_getElem? (i := 9) rfl)) (by decide) (argsL := [(.ref b146), (.int (0 : Int32)), (.int (0 : Int32)), (.int (0 : Int32)), (.long (t0.toInt64))]) (rest := []) (own_rm2_3_0 l Z a0 hw [] b146 (0 : Int32) (t0.toInt64) (0 : Int64) (0 : Int64) (0 : Int64) t0 h143 n0  A145 g149 rfl) (W := 0) (by decide) (by decide) (by decide) (by decide) rfl (by rw [hml]; rfl) (lenOf own_pd5 rfl) rfl (by show 2 * 0 + _ ≤ _; exact Nat.le_of_eq rfl) (hb hby own_d1_76) (fun T151 h153 v154 Y152 q155 => ?_)
     obtain ⟨rfl, K156, F157⟩ := q155
     show own_Ends _ _ _ _ (T151.setTop (mkF m 79 #[.val (.ref r0), .val (.int (3 : Int32)), .val (.ref b146), .val (.long (0 : Int64)), .second, .val (.int (1 : Int32)), .val (.int (0 : Int32))] []))
     refine own_st (fun t_ => XS.lloadN (own_here Y152) hx rfl (hb hby own_d1_79) rfl) ?_
     show own_Ends _ _ _ _ (T151.setTop (mkF m 80 #[.val (.ref r0), .val (.int (3 : Int32)), .val (.ref b146), .val (.long (0 : Int64)), .second, .val (.int (1 : Int32)), .val (.int (0 : Int32))] [(.long (0 : Int64))]))
     refine own_st (fun t_ => XS.iload (own_here Y152) hx rfl (hb hby own_d1_80) rfl) ?_
     show own_Ends _ _ _ _ (T151.setTop (mkF m 82 #[.val (.ref r0), .val (.int (3 : Int32)), .val (.ref b146), .val (.long (0 : Int64)), .second, .val (.int (1 : Int32)), .val (.int (0 : Int32))] [(.int (0 : Int32)), (.long (0 : Int64))]))
     refine own_st (fun t_ => XS.i2l (own_here Y152) hx rfl (hb hby own_d1_82) rfl) ?_
     show own_Ends _ _ _ _ (T151.setTop (mkF m 83 #[.val (.ref r0), .val (.int (3 : Int32)), .val (.ref b146), .val (.long (0 : Int64)), .second, .val (.int (1 : Int32)), .val (.int (0 : Int32))] [(.long (0 : Int64)), (.long (0 : Int64))]))
     refine own_st (fun t_ => XS.aloadN (own_here Y152) hx rfl (hb hby own_d1_83) rfl rfl) ?_
     show own_Ends _ _ _ _ (T151.setTop (mkF m 84 #[.val (.ref r0), .val (.int (3 : Int32)), .val (.ref b146), .val (.long (0 : Int64)), .second, .val (.int (1 : Int32)), .val (.int (0 : Int32))] [(.ref r0), (.long (0 : Int64)), (.long (0 : Int64))]))
     refine own_st (fun t_ => XS.iload (own_here Y152) hx rfl (hb hby own_d1_84) rfl) ?_
     show own_Ends _ _ _ _ (T151.setTop (mkF m 86 #[.val (.ref r0), .val (.int (3 : Int32)), .val (.ref b146), .val (.long (0 : Int64)), .second, .val (.int (1 : Int32)), .val (.int (0 : Int32))] [(.int (0 : Int32)), (.ref r0), (.long (0 : Int64)), (.long (0 : Int64))]))
     have f158 : own_A Z h153 r0 .int [(.int t0), (.int t1), (.int t2)] := f150.keep K156 (ninS ne148 nin0)
     refine own_ldI Y152 hx hZ f158 (i := 0) (by decide) (by decide) (Nat.le_of_ble_eq_true rfl) (v := (.int t0)) rfl rfl rfl (hb hby own_d1_86) ?_
     show own_Ends _ _ _ _ (T151.setTop (mkF m 87 #[.val (.ref r0), .val (.int (3 : Int32)), .val (.ref b146), .val (.long (0 : Int64)), .second, .val (.int (1 : Int32)), .val (.int (0 : Int32))] [(.int t0), (.long (0 : Int64)), (.long (0 : Int64))]))
     refine own_st (fun t_ => XS.i2l (own_here Y152) hx rfl (hb hby own_d1_87) rfl) ?_
     show own_Ends _ _ _ _ (T151.setTop (mkF m 88 #[.val (.ref r0), .val (.int (3 : Int32)), .val (.ref b146), .val (.long (0 : Int64)), .second, .val (.int (1 : Int32)), .val (.int (0 : Int32))] [(.long (t0.toInt64)), (.long (0 : Int64)), (.long (0 : Int64))]))
     refine own_callS Y152 hx hZ (y := (⟨"com/example/poset/poset/core/Marking", "mix", "(JJ)J"⟩ : MethodName)) hown (hw _ (List.mem_of_getElem? (i := 10) rfl)) (hw _ (List.mem_of_getElem? (i := 11) rfl)) (hw _ (List.mem_of_getElem? (i := 4) rfl)) (hw _ (List.mem_of_getElem? (i := 12) rfl)) (by decide) (argsL := [(.long (0 : Int64)), (.long (t0.toInt64))]) (rest := [(.long (0 : Int64))]) (own_rm3 l Z a0 hw [] (0 : Int64) (t0.toInt64)  h153 n0  ) (W := 2) (by decide) (by decide) (by decide) (by decide) rfl (by rw [hml]; rfl) (lenOf own_pd6 rfl) rfl (by show 2 * 0 + _ ≤ _; exact Nat.le_of_eq rfl) (hb hby own_d1_88) (fun T159 h161 v162 Y160 q163 => ?_)
     obtain ⟨m164, rfl, rfl⟩ := q163
     show own_Ends _ _ _ _ (T159.setTop (mkF m 91 #[.val (.ref r0), .val (.int (3 : Int32)), .val (.ref b146), .val (.long (0 : Int64)), .second, .val (.int (1 : Int32)), .val (.int (0 : Int32))] [(.long m164), (.long (0 : Int64))]))
     refine own_st (fun t_ => XS.ladd (own_here Y160) hx rfl (hb hby own_d1_91) rfl) ?_
     show own_Ends _ _ _ _ (T159.setTop (mkF m 92 #[.val (.ref r0), .val (.int (3 : Int32)), .val (.ref b146), .val (.long (0 : Int64)), .second, .val (.int (1 : Int32)), .val (.int (0 : Int32))] [(.long ((0 : Int64) + m164))]))
     refine own_st (fun t_ => XS.lstoreN (own_here Y160) hx rfl (hb hby own_d1_92) rfl (l' := #[.val (.ref r0), .val (.int (3 : Int32)), .val (.ref b146), .val (.long ((0 : Int64) + m164)), .second, .val (.int (1 : Int32)), .val (.int (0 : Int32))]) rfl) ?_
     show own_Ends _ _ _ _ (T159.setTop (mkF m 93 #[.val (.ref r0), .val (.int (3 : Int32)), .val (.ref b146), .val (.long ((0 : Int64) + m164)), .second, .val (.int (1 : Int32)), .val (.int (0 : Int32))] []))
     refine own_st (fun t_ => XS.iinc (own_here Y160) hx rfl (hb hby own_d1_93) rfl (l' := #[.val (.ref r0), .val (.int (3 : Int32)), .val (.ref b146), .val (.long ((0 : Int64) + m164)), .second, .val (.int (1 : Int32)), .val (.int (1 : Int32))]) rfl) ?_
     show own_Ends _ _ _ _ (T159.setTop (mkF m 96 #[.val (.ref r0), .val (.int (3 : Int32)), .val (.ref b146), .val (.long ((0 : Int64) + m164)), .second, .val (.int (1 : Int32)), .val (.int (1 : Int32))] []))
     refine own_st (fun t_ => XS.goto (own_here Y160) hx rfl (pc0 := 96) (pc' := 48) rfl (hb hby own_d1_96) (by decide) (by decide)) ?_
     show own_Ends _ _ _ _ (T159.setTop (mkF m 48 #[.val (.ref r0), .val (.int (3 : Int32)), .val (.ref b146), .val (.long ((0 : Int64) + m164)), .second, .val (.int (1 : Int32)), .val (.int (1 : Int32))] []))
     refine own_st (fun t_ => XS.iload (own_here Y160) hx rfl (hb hby own_d1_48) rfl) ?_
     show own_Ends _ _ _ _ (T159.setTop (mkF m 50 #[.val (.ref r0), .val (.int (3 : Int32)), .val (.ref b146), .val (.long ((0 : Int64) + m164)), .second, .val (.int (1 : Int32)), .val (.int (1 : Int32))] [(.int (1 : Int32))]))
     refine own_st (fun t_ => XS.aloadN (own_here Y160) hx rfl (hb hby own_d1_50) rfl rfl) ?_
     show own_Ends _ _ _ _ (T159.setTop (mkF m 51 #[.val (.ref r0), .val (.int (3 : Int32)), .val (.ref b146), .val (.long ((0 : Int64) + m164)), .second, .val (.int (1 : Int32)), .val (.int (1 : Int32))] [(.ref r0), (.int (1 : Int32))]))
     refine own_len Y160 hx hZ f158 (z := (3 : Int32)) rfl rfl rfl (hb hby own_d1_51) ?_
     show own_Ends _ _ _ _ (T159.setTop (mkF m 52 #[.val (.ref r0), .val (.int (3 : Int32)), .val (.ref b146), .val (.long ((0 : Int64) + m164)), .second, .val (.int (1 : Int32)), .val (.int (1 : Int32))] [(.int (3 : Int32)), (.int (1 : Int32))]))
     refine own_st (fun t_ => XS.icmpNo (own_here Y160) hx rfl (hb hby own_d1_52) rfl (XT.ii_ge_f (by decide))) ?_
     show own_Ends _ _ _ _ (T159.setTop (mkF m 55 #[.val (.ref r0), .val (.int (3 : Int32)), .val (.ref b146), .val (.long ((0 : Int64) + m164)), .second, .val (.int (1 : Int32)), .val (.int (1 : Int32))] []))
     refine own_st (fun t_ => XS.aloadN (own_here Y160) hx rfl (hb hby own_d1_55) rfl rfl) ?_
     show own_Ends _ _ _ _ (T159.setTop (mkF m 56 #[.val (.ref r0), .val (.int (3 : Int32)), .val (.ref b146), .val (.long ((0 : Int64) + m164)), .second, .val (.int (1 : Int32)), .val (.int (1 : Int32))] [(.ref r0)]))
     refine own_st (fun t_ => XS.iload (own_here Y160) hx rfl (hb hby own_d1_56) rfl) ?_
     show own_Ends _ _ _ _ (T159.setTop (mkF m 58 #[.val (.ref r0), .val (.int (3 : Int32)), .val (.ref b146), .val (.long ((0 : Int64) + m164)), .second, .val (.int (1 : Int32)), .val (.int (1 : Int32))] [(.int (1 : Int32)), (.ref r0)]))
     refine own_ldI Y160 hx hZ f158 (i := 1) (by decide) (by decide) (Nat.le_of_ble_eq_true rfl) (v := (.int t1)) rfl rfl rfl (hb hby own_d1_58) ?_
     show own_Ends _ _ _ _ (T159.setTop (mkF m 59 #[.val (.ref r0), .val (.int (3 : Int32)), .val (.ref b146), .val (.long ((0 : Int64) + m164)), .second, .val (.int (1 : Int32)), .val (.int (1 : Int32))] [(.int t1)]))
     refine own_st (fun t_ => XS.ifNo (own_here Y160) hx rfl (hb hby own_d1_59) rfl (XT.i0_le_f c24_139)) ?_
     show own_Ends _ _ _ _ (T159.setTop (mkF m 62 #[.val (.ref r0), .val (.int (3 : Int32)), .val (.ref b146), .val (.long ((0 : Int64) + m164)), .second, .val (.int (1 : Int32)), .val (.int (1 : Int32))] []))
     refine own_st (fun t_ => XS.aloadN (own_here Y160) hx rfl (hb hby own_d1_62) rfl rfl) ?_
     show own_Ends _ _ _ _ (T159.setTop (mkF m 63 #[.val (.ref r0), .val (.int (3 : Int32)), .val (.ref b146), .val (.long ((0 : Int64) + m164)), .second, .val (.int (1 : Int32)), .val (.int (1 : Int32))] [(.ref b146)]))
     refine own_st (fun t_ => XS.iconst (own_here Y160) hx rfl (hb hby own_d1_63) ) ?_
     show own_Ends _ _ _ _ (T159.setTop (mkF m 64 #[.val (.ref r0), .val (.int (3 : Int32)), .val (.ref b146), .val (.long ((0 : Int64) + m164)), .second, .val (.int (1 : Int32)), .val (.int (1 : Int32))] [(.int (0 : Int32)), (.ref b146)]))
     refine own_st (fun t_ => XS.iload (own_here Y160) hx rfl (hb hby own_d1_64) rfl) ?_
     show own_Ends _ _ _ _ (T159.setTop (mkF m 66 #[.val (.ref r0), .val (.int (3 : Int32)), .val (.ref b146), .val (.long ((0 : Int64) + m164)), .second, .val (.int (1 : Int32)), .val (.int (1 : Int32))] [(.int (1 : Int32)), (.int (0 : Int32)), (.ref b146)]))
     refine own_st (fun t_ => XS.iinc (own_here Y160) hx rfl (hb hby own_d1_66) rfl (l' := #[.val (.ref r0), .val (.int (3 : Int32)), .val (.ref b146), .val (.long ((0 : Int64) + m164)), .second, .val (.int (2 : Int32)), .val (.int (1 : Int32))]) rfl) ?_
     show own_Ends _ _ _ _ (T159.setTop (mkF m 69 #[.val (.ref r0), .val (.int (3 : Int32)), .val (.ref b146), .val (.long ((0 : Int64) + m164)), .second, .val (.int (2 : Int32)), .val (.int (1 : Int32))] [(.int (1 : Int32)), (.int (0 : Int32)), (.ref b146)]))
     refine own_st (fun t_ => XS.iload (own_here Y160) hx rfl (hb hby own_d1_69) rfl) ?_
     show own_Ends _ _ _ _ (T159.setTop (mkF m 71 #[.val (.ref r0), .val (.int (3 : Int32)), .val (.ref b146), .val (.long ((0 : Int64) + m164)), .second, .val (.int (2 : Int32)), .val (.int (1 : Int32))] [(.int (1 : Int32)), (.int (1 : Int32)), (.int (0 : Int32)), (.ref b146)]))
     refine own_st (fun t_ => XS.aloadN (own_here Y160) hx rfl (hb hby own_d1_71) rfl rfl) ?_
     show own_Ends _ _ _ _ (T159.setTop (mkF m 72 #[.val (.ref r0), .val (.int (3 : Int32)), .val (.ref b146), .val (.long ((0 : Int64) + m164)), .second, .val (.int (2 : Int32)), .val (.int (1 : Int32))] [(.ref r0), (.int (1 : Int32)), (.int (1 : Int32)), (.int (0 : Int32)), (.ref b146)]))
     refine own_st (fun t_ => XS.iload (own_here Y160) hx rfl (hb hby own_d1_72) rfl) ?_
     show own_Ends _ _ _ _ (T159.setTop (mkF m 74 #[.val (.ref r0), .val (.int (3 : Int32)), .val (.ref b146), .val (.long ((0 : Int64) + m164)), .second, .val (.int (2 : Int32)), .val (.int (1 : Int32))] [(.int (1 : Int32)), (.ref r0), (.int (1 : Int32)), (.int (1 : Int32)), (.int (0 : Int32)), (.ref b146)]))
     refine own_ldI Y160 hx hZ f158 (i := 1) (by decide) (by decide) (Nat.le_of_ble_eq_true rfl) (v := (.int t1)) rfl rfl rfl (hb hby own_d1_74) ?_
     show own_Ends _ _ _ _ (T159.setTop (mkF m 75 #[.val (.ref r0), .val (.int (3 : Int32)), .val (.ref b146), .val (.long ((0 : Int64) + m164)), .second, .val (.int (2 : Int32)), .val (.int (1 : Int32))] [(.int t1), (.int (1 : Int32)), (.int (1 : Int32)), (.int (0 : Int32)), (.ref b146)]))
     refine own_st (fun t_ => XS.i2l (own_here Y160) hx rfl (hb hby own_d1_75) rfl) ?_
     show own_Ends _ _ _ _ (T159.setTop (mkF m 76 #[.val (.ref r0), .val (.int (3 : Int32)), .val (.ref b146), .val (.long ((0 : Int64) + m164)), .second, .val (.int (2 : Int32)), .val (.int (1 : Int32))] [(.long (t1.toInt64)), (.int (1 : Int32)), (.int (1 : Int32)), (.int (0 : Int32)), (.ref b146)]))
     refine own_callS Y160 hx hZ (y := (⟨"com/example/poset/poset/core/Marking", "put", "([JZIIJ)V"⟩ : MethodName)) hown (hw _ (List.mem_of_getElem? (i := 7) rfl)) (hw _ (List.mem_of_getElem? (i := 8) rfl)) (hw _ (List.mem_of_getElem? (i := 4) rfl)) (hw _ (List.mem_of_getElem? (i := 9) rfl)) (by decide) (argsL := [(.ref b146), (.int (0 : Int32)), (.int (1 : Int32)), (.int (1 : Int32)), (.long (t1.toInt64))]) (rest := []) (own_rm2_3_1 l Z a0 hw [] b146 (1 : Int32) (t1.toInt64) (own_E (0 : Int32) t0) (0 : Int64) (0 : Int64) t1 h153 n0  F157 g149 rfl) (W := 0) (by decide) (by decide) (by decide) (by decide) rfl (by rw [hml]; rfl) (lenOf own_pd5 rfl) rfl (by show 2 * 0 + _ ≤ _; exact Nat.le_of_eq rfl) (hb hby own_d1_76) (fun T165 h167 v168 Y166 q169 => ?_)
     obtain ⟨rfl, K170, F171⟩ := q169
     show own_Ends _ _ _ _ (T165.setTop (mkF m 79 #[.val (.ref r0), .val (.int (3 : Int32)), .val (.ref b146), .val (.long ((0 : Int64) + m164)), .second, .val (.int (2 : Int32)), .val (.int (1 : Int32))] []))
     refine own_st (fun t_ => XS.lloadN (own_here Y166) hx rfl (hb hby own_d1_79) rfl) ?_
     show own_Ends _ _ _ _ (T165.setTop (mkF m 80 #[.val (.ref r0), .val (.int (3 : Int32)), .val (.ref b146), .val (.long ((0 : Int64) + m164)), .second, .val (.int (2 : Int32)), .val (.int (1 : Int32))] [(.long ((0 : Int64) + m164))]))
     refine own_st (fun t_ => XS.iload (own_here Y166) hx rfl (hb hby own_d1_80) rfl) ?_
     show own_Ends _ _ _ _ (T165.setTop (mkF m 82 #[.val (.ref r0), .val (.int (3 : Int32)), .val (.ref b146), .val (.long ((0 : Int64) + m164)), .second, .val (.int (2 : Int32)), .val (.int (1 : Int32))] [(.int (1 : Int32)), (.long ((0 : Int64) + m164))]))
     refine own_st (fun t_ => XS.i2l (own_here Y166) hx rfl (hb hby own_d1_82) rfl) ?_
     show own_Ends _ _ _ _ (T165.setTop (mkF m 83 #[.val (.ref r0), .val (.int (3 : Int32)), .val (.ref b146), .val (.long ((0 : Int64) + m164)), .second, .val (.int (2 : Int32)), .val (.int (1 : Int32))] [(.long (1 : Int64)), (.long ((0 : Int64) + m164))]))
     refine own_st (fun t_ => XS.aloadN (own_here Y166) hx rfl (hb hby own_d1_83) rfl rfl) ?_
     show own_Ends _ _ _ _ (T165.setTop (mkF m 84 #[.val (.ref r0), .val (.int (3 : Int32)), .val (.ref b146), .val (.long ((0 : Int64) + m164)), .second, .val (.int (2 : Int32)), .val (.int (1 : Int32))] [(.ref r0), (.long (1 : Int64)), (.long ((0 : Int64) + m164))]))
     refine own_st (fun t_ => XS.iload (own_here Y166) hx rfl (hb hby own_d1_84) rfl) ?_
     show own_Ends _ _ _ _ (T165.setTop (mkF m 86 #[.val (.ref r0), .val (.int (3 : Int32)), .val (.ref b146), .val (.long ((0 : Int64) + m164)), .second, .val (.int (2 : Int32)), .val (.int (1 : Int32))] [(.int (1 : Int32)), (.ref r0), (.long (1 : Int64)), (.long ((0 : Int64) + m164))]))
     have f172 : own_A Z h167 r0 .int [(.int t0), (.int t1), (.int t2)] := f158.keep K170 (ninS ne148 nin0)
     refine own_ldI Y166 hx hZ f172 (i := 1) (by decide) (by decide) (Nat.le_of_ble_eq_true rfl) (v := (.int t1)) rfl rfl rfl (hb hby own_d1_86) ?_
     show own_Ends _ _ _ _ (T165.setTop (mkF m 87 #[.val (.ref r0), .val (.int (3 : Int32)), .val (.ref b146), .val (.long ((0 : Int64) + m164)), .second, .val (.int (2 : Int32)), .val (.int (1 : Int32))] [(.int t1), (.long (1 : Int64)), (.long ((0 : Int64) + m164))]))
     refine own_st (fun t_ => XS.i2l (own_here Y166) hx rfl (hb hby own_d1_87) rfl) ?_
     show own_Ends _ _ _ _ (T165.setTop (mkF m 88 #[.val (.ref r0), .val (.int (3 : Int32)), .val (.ref b146), .val (.long ((0 : Int64) + m164)), .second, .val (.int (2 : Int32)), .val (.int (1 : Int32))] [(.long (t1.toInt64)), (.long (1 : Int64)), (.long ((0 : Int64) + m164))]))
     refine own_callS Y166 hx hZ (y := (⟨"com/example/poset/poset/core/Marking", "mix", "(JJ)J"⟩ : MethodName)) hown (hw _ (List.mem_of_getElem? (i := 10) rfl)) (hw _ (List.mem_of_getElem? (i := 11) rfl)) (hw _ (List.mem_of_getElem? (i := 4) rfl)) (hw _ (List.mem_of_getElem? (i := 12) rfl)) (by decide) (argsL := [(.long (1 : Int64)), (.long (t1.toInt64))]) (rest := [(.long ((0 : Int64) + m164))]) (own_rm3 l Z a0 hw [] (1 : Int64) (t1.toInt64)  h167 n0  ) (W := 2) (by decide) (by decide) (by decide) (by decide) rfl (by rw [hml]; rfl) (lenOf own_pd6 rfl) rfl (by show 2 * 0 + _ ≤ _; exact Nat.le_of_eq rfl) (hb hby own_d1_88) (fun T173 h175 v176 Y174 q177 => ?_)
     obtain ⟨m178, rfl, rfl⟩ := q177
     show own_Ends _ _ _ _ (T173.setTop (mkF m 91 #[.val (.ref r0), .val (.int (3 : Int32)), .val (.ref b146), .val (.long ((0 : Int64) + m164)), .second, .val (.int (2 : Int32)), .val (.int (1 : Int32))] [(.long m178), (.long ((0 : Int64) + m164))]))
     refine own_st (fun t_ => XS.ladd (own_here Y174) hx rfl (hb hby own_d1_91) rfl) ?_
     show own_Ends _ _ _ _ (T173.setTop (mkF m 92 #[.val (.ref r0), .val (.int (3 : Int32)), .val (.ref b146), .val (.long ((0 : Int64) + m164)), .second, .val (.int (2 : Int32)), .val (.int (1 : Int32))] [(.long (((0 : Int64) + m164) + m178))]))
     refine own_st (fun t_ => XS.lstoreN (own_here Y174) hx rfl (hb hby own_d1_92) rfl (l' := #[.val (.ref r0), .val (.int (3 : Int32)), .val (.ref b146), .val (.long (((0 : Int64) + m164) + m178)), .second, .val (.int (2 : Int32)), .val (.int (1 : Int32))]) rfl) ?_
     show own_Ends _ _ _ _ (T173.setTop (mkF m 93 #[.val (.ref r0), .val (.int (3 : Int32)), .val (.ref b146), .val (.long (((0 : Int64) + m164) + m178)), .second, .val (.int (2 : Int32)), .val (.int (1 : Int32))] []))
     refine own_st (fun t_ => XS.iinc (own_here Y174) hx rfl (hb hby own_d1_93) rfl (l' := #[.val (.ref r0), .val (.int (3 : Int32)), .val (.ref b146), .val (.long (((0 : Int64) + m164) + m178)), .second, .val (.int (2 : Int32)), .val (.int (2 : Int32))]) rfl) ?_
     show own_Ends _ _ _ _ (T173.setTop (mkF m 96 #[.val (.ref r0), .val (.int (3 : Int32)), .val (.ref b146), .val (.long (((0 : Int64) + m164) + m178)), .second, .val (.int (2 : Int32)), .val (.int (2 : Int32))] []))
     refine own_st (fun t_ => XS.goto (own_here Y174) hx rfl (pc0 := 96) (pc' := 48) rfl (hb hby own_d1_96) (by decide) (by decide)) ?_
     show own_Ends _ _ _ _ (T173.setTop (mkF m 48 #[.val (.ref r0), .val (.int (3 : Int32)), .val (.ref b146), .val (.long (((0 : Int64) + m164) + m178)), .second, .val (.int (2 : Int32)), .val (.int (2 : Int32))] []))
     refine own_st (fun t_ => XS.iload (own_here Y174) hx rfl (hb hby own_d1_48) rfl) ?_
     show own_Ends _ _ _ _ (T173.setTop (mkF m 50 #[.val (.ref r0), .val (.int (3 : Int32)), .val (.ref b146), .val (.long (((0 : Int64) + m164) + m178)), .second, .val (.int (2 : Int32)), .val (.int (2 : Int32))] [(.int (2 : Int32))]))
     refine own_st (fun t_ => XS.aloadN (own_here Y174) hx rfl (hb hby own_d1_50) rfl rfl) ?_
     show own_Ends _ _ _ _ (T173.setTop (mkF m 51 #[.val (.ref r0), .val (.int (3 : Int32)), .val (.ref b146), .val (.long (((0 : Int64) + m164) + m178)), .second, .val (.int (2 : Int32)), .val (.int (2 : Int32))] [(.ref r0), (.int (2 : Int32))]))
     refine own_len Y174 hx hZ f172 (z := (3 : Int32)) rfl rfl rfl (hb hby own_d1_51) ?_
     show own_Ends _ _ _ _ (T173.setTop (mkF m 52 #[.val (.ref r0), .val (.int (3 : Int32)), .val (.ref b146), .val (.long (((0 : Int64) + m164) + m178)), .second, .val (.int (2 : Int32)), .val (.int (2 : Int32))] [(.int (3 : Int32)), (.int (2 : Int32))]))
     refine own_st (fun t_ => XS.icmpNo (own_here Y174) hx rfl (hb hby own_d1_52) rfl (XT.ii_ge_f (by decide))) ?_
     show own_Ends _ _ _ _ (T173.setTop (mkF m 55 #[.val (.ref r0), .val (.int (3 : Int32)), .val (.ref b146), .val (.long (((0 : Int64) + m164) + m178)), .second, .val (.int (2 : Int32)), .val (.int (2 : Int32))] []))
     refine own_st (fun t_ => XS.aloadN (own_here Y174) hx rfl (hb hby own_d1_55) rfl rfl) ?_
     show own_Ends _ _ _ _ (T173.setTop (mkF m 56 #[.val (.ref r0), .val (.int (3 : Int32)), .val (.ref b146), .val (.long (((0 : Int64) + m164) + m178)), .second, .val (.int (2 : Int32)), .val (.int (2 : Int32))] [(.ref r0)]))
     refine own_st (fun t_ => XS.iload (own_here Y174) hx rfl (hb hby own_d1_56) rfl) ?_
     show own_Ends _ _ _ _ (T173.setTop (mkF m 58 #[.val (.ref r0), .val (.int (3 : Int32)), .val (.ref b146), .val (.long (((0 : Int64) + m164) + m178)), .second, .val (.int (2 : Int32)), .val (.int (2 : Int32))] [(.int (2 : Int32)), (.ref r0)]))
     refine own_ldI Y174 hx hZ f172 (i := 2) (by decide) (by decide) (Nat.le_of_ble_eq_true rfl) (v := (.int t2)) rfl rfl rfl (hb hby own_d1_58) ?_
     show own_Ends _ _ _ _ (T173.setTop (mkF m 59 #[.val (.ref r0), .val (.int (3 : Int32)), .val (.ref b146), .val (.long (((0 : Int64) + m164) + m178)), .second, .val (.int (2 : Int32)), .val (.int (2 : Int32))] [(.int t2)]))
     refine own_st (fun t_ => XS.ifNo (own_here Y174) hx rfl (hb hby own_d1_59) rfl (XT.i0_le_f c24_140)) ?_
     show own_Ends _ _ _ _ (T173.setTop (mkF m 62 #[.val (.ref r0), .val (.int (3 : Int32)), .val (.ref b146), .val (.long (((0 : Int64) + m164) + m178)), .second, .val (.int (2 : Int32)), .val (.int (2 : Int32))] []))
     refine own_st (fun t_ => XS.aloadN (own_here Y174) hx rfl (hb hby own_d1_62) rfl rfl) ?_
     show own_Ends _ _ _ _ (T173.setTop (mkF m 63 #[.val (.ref r0), .val (.int (3 : Int32)), .val (.ref b146), .val (.long (((0 : Int64) + m164) + m178)), .second, .val (.int (2 : Int32)), .val (.int (2 : Int32))] [(.ref b146)]))
     refine own_st (fun t_ => XS.iconst (own_here Y174) hx rfl (hb hby own_d1_63) ) ?_
     show own_Ends _ _ _ _ (T173.setTop (mkF m 64 #[.val (.ref r0), .val (.int (3 : Int32)), .val (.ref b146), .val (.long (((0 : Int64) + m164) + m178)), .second, .val (.int (2 : Int32)), .val (.int (2 : Int32))] [(.int (0 : Int32)), (.ref b146)]))
     refine own_st (fun t_ => XS.iload (own_here Y174) hx rfl (hb hby own_d1_64) rfl) ?_
     show own_Ends _ _ _ _ (T173.setTop (mkF m 66 #[.val (.ref r0), .val (.int (3 : Int32)), .val (.ref b146), .val (.long (((0 : Int64) + m164) + m178)), .second, .val (.int (2 : Int32)), .val (.int (2 : Int32))] [(.int (2 : Int32)), (.int (0 : Int32)), (.ref b146)]))
     refine own_st (fun t_ => XS.iinc (own_here Y174) hx rfl (hb hby own_d1_66) rfl (l' := #[.val (.ref r0), .val (.int (3 : Int32)), .val (.ref b146), .val (.long (((0 : Int64) + m164) + m178)), .second, .val (.int (3 : Int32)), .val (.int (2 : Int32))]) rfl) ?_
     show own_Ends _ _ _ _ (T173.setTop (mkF m 69 #[.val (.ref r0), .val (.int (3 : Int32)), .val (.ref b146), .val (.long (((0 : Int64) + m164) + m178)), .second, .val (.int (3 : Int32)), .val (.int (2 : Int32))] [(.int (2 : Int32)), (.int (0 : Int32)), (.ref b146)]))
     refine own_st (fun t_ => XS.iload (own_here Y174) hx rfl (hb hby own_d1_69) rfl) ?_
     show own_Ends _ _ _ _ (T173.setTop (mkF m 71 #[.val (.ref r0), .val (.int (3 : Int32)), .val (.ref b146), .val (.long (((0 : Int64) + m164) + m178)), .second, .val (.int (3 : Int32)), .val (.int (2 : Int32))] [(.int (2 : Int32)), (.int (2 : Int32)), (.int (0 : Int32)), (.ref b146)]))
     refine own_st (fun t_ => XS.aloadN (own_here Y174) hx rfl (hb hby own_d1_71) rfl rfl) ?_
     show own_Ends _ _ _ _ (T173.setTop (mkF m 72 #[.val (.ref r0), .val (.int (3 : Int32)), .val (.ref b146), .val (.long (((0 : Int64) + m164) + m178)), .second, .val (.int (3 : Int32)), .val (.int (2 : Int32))] [(.ref r0), (.int (2 : Int32)), (.int (2 : Int32)), (.int (0 : Int32)), (.ref b146)]))
     refine own_st (fun t_ => XS.iload (own_here Y174) hx rfl (hb hby own_d1_72) rfl) ?_
     show own_Ends _ _ _ _ (T173.setTop (mkF m 74 #[.val (.ref r0), .val (.int (3 : Int32)), .val (.ref b146), .val (.long (((0 : Int64) + m164) + m178)), .second, .val (.int (3 : Int32)), .val (.int (2 : Int32))] [(.int (2 : Int32)), (.ref r0), (.int (2 : Int32)), (.int (2 : Int32)), (.int (0 : Int32)), (.ref b146)]))
     refine own_ldI Y174 hx hZ f172 (i := 2) (by decide) (by decide) (Nat.le_of_ble_eq_true rfl) (v := (.int t2)) rfl rfl rfl (hb hby own_d1_74) ?_
     show own_Ends _ _ _ _ (T173.setTop (mkF m 75 #[.val (.ref r0), .val (.int (3 : Int32)), .val (.ref b146), .val (.long (((0 : Int64) + m164) + m178)), .second, .val (.int (3 : Int32)), .val (.int (2 : Int32))] [(.int t2), (.int (2 : Int32)), (.int (2 : Int32)), (.int (0 : Int32)), (.ref b146)]))
     refine own_st (fun t_ => XS.i2l (own_here Y174) hx rfl (hb hby own_d1_75) rfl) ?_
     show own_Ends _ _ _ _ (T173.setTop (mkF m 76 #[.val (.ref r0), .val (.int (3 : Int32)), .val (.ref b146), .val (.long (((0 : Int64) + m164) + m178)), .second, .val (.int (3 : Int32)), .val (.int (2 : Int32))] [(.long (t2.toInt64)), (.int (2 : Int32)), (.int (2 : Int32)), (.int (0 : Int32)), (.ref b146)]))
     refine own_callS Y174 hx hZ (y := (⟨"com/example/poset/poset/core/Marking", "put", "([JZIIJ)V"⟩ : MethodName)) hown (hw _ (List.mem_of_getElem? (i := 7) rfl)) (hw _ (List.mem_of_getElem? (i := 8) rfl)) (hw _ (List.mem_of_getElem? (i := 4) rfl)) (hw _ (List.mem_of_getElem? (i := 9) rfl)) (by decide) (argsL := [(.ref b146), (.int (0 : Int32)), (.int (2 : Int32)), (.int (2 : Int32)), (.long (t2.toInt64))]) (rest := []) (own_rm2_3_2 l Z a0 hw [] b146 (2 : Int32) (t2.toInt64) (own_E (0 : Int32) t0) (own_E (1 : Int32) t1) (0 : Int64) t2 h167 n0  F171 g149 rfl) (W := 0) (by decide) (by decide) (by decide) (by decide) rfl (by rw [hml]; rfl) (lenOf own_pd5 rfl) rfl (by show 2 * 0 + _ ≤ _; exact Nat.le_of_eq rfl) (hb hby own_d1_76) (fun T179 h181 v182 Y180 q183 => ?_)
     obtain ⟨rfl, K184, F185⟩ := q183
     show own_Ends _ _ _ _ (T179.setTop (mkF m 79 #[.val (.ref r0), .val (.int (3 : Int32)), .val (.ref b146), .val (.long (((0 : Int64) + m164) + m178)), .second, .val (.int (3 : Int32)), .val (.int (2 : Int32))] []))
     refine own_st (fun t_ => XS.lloadN (own_here Y180) hx rfl (hb hby own_d1_79) rfl) ?_
     show own_Ends _ _ _ _ (T179.setTop (mkF m 80 #[.val (.ref r0), .val (.int (3 : Int32)), .val (.ref b146), .val (.long (((0 : Int64) + m164) + m178)), .second, .val (.int (3 : Int32)), .val (.int (2 : Int32))] [(.long (((0 : Int64) + m164) + m178))]))
     refine own_st (fun t_ => XS.iload (own_here Y180) hx rfl (hb hby own_d1_80) rfl) ?_
     show own_Ends _ _ _ _ (T179.setTop (mkF m 82 #[.val (.ref r0), .val (.int (3 : Int32)), .val (.ref b146), .val (.long (((0 : Int64) + m164) + m178)), .second, .val (.int (3 : Int32)), .val (.int (2 : Int32))] [(.int (2 : Int32)), (.long (((0 : Int64) + m164) + m178))]))
     refine own_st (fun t_ => XS.i2l (own_here Y180) hx rfl (hb hby own_d1_82) rfl) ?_
     show own_Ends _ _ _ _ (T179.setTop (mkF m 83 #[.val (.ref r0), .val (.int (3 : Int32)), .val (.ref b146), .val (.long (((0 : Int64) + m164) + m178)), .second, .val (.int (3 : Int32)), .val (.int (2 : Int32))] [(.long (2 : Int64)), (.long (((0 : Int64) + m164) + m178))]))
     refine own_st (fun t_ => XS.aloadN (own_here Y180) hx rfl (hb hby own_d1_83) rfl rfl) ?_
     show own_Ends _ _ _ _ (T179.setTop (mkF m 84 #[.val (.ref r0), .val (.int (3 : Int32)), .val (.ref b146), .val (.long (((0 : Int64) + m164) + m178)), .second, .val (.int (3 : Int32)), .val (.int (2 : Int32))] [(.ref r0), (.long (2 : Int64)), (.long (((0 : Int64) + m164) + m178))]))
     refine own_st (fun t_ => XS.iload (own_here Y180) hx rfl (hb hby own_d1_84) rfl) ?_
     show own_Ends _ _ _ _ (T179.setTop (mkF m 86 #[.val (.ref r0), .val (.int (3 : Int32)), .val (.ref b146), .val (.long (((0 : Int64) + m164) + m178)), .second, .val (.int (3 : Int32)), .val (.int (2 : Int32))] [(.int (2 : Int32)), (.ref r0), (.long (2 : Int64)), (.long (((0 : Int64) + m164) + m178))]))
     have f186 : own_A Z h181 r0 .int [(.int t0), (.int t1), (.int t2)] := f172.keep K184 (ninS ne148 nin0)
     refine own_ldI Y180 hx hZ f186 (i := 2) (by decide) (by decide) (Nat.le_of_ble_eq_true rfl) (v := (.int t2)) rfl rfl rfl (hb hby own_d1_86) ?_
     show own_Ends _ _ _ _ (T179.setTop (mkF m 87 #[.val (.ref r0), .val (.int (3 : Int32)), .val (.ref b146), .val (.long (((0 : Int64) + m164) + m178)), .second, .val (.int (3 : Int32)), .val (.int (2 : Int32))] [(.int t2), (.long (2 : Int64)), (.long (((0 : Int64) + m164) + m178))]))
     refine own_st (fun t_ => XS.i2l (own_here Y180) hx rfl (hb hby own_d1_87) rfl) ?_
     show own_Ends _ _ _ _ (T179.setTop (mkF m 88 #[.val (.ref r0), .val (.int (3 : Int32)), .val (.ref b146), .val (.long (((0 : Int64) + m164) + m178)), .second, .val (.int (3 : Int32)), .val (.int (2 : Int32))] [(.long (t2.toInt64)), (.long (2 : Int64)), (.long (((0 : Int64) + m164) + m178))]))
     refine own_callS Y180 hx hZ (y := (⟨"com/example/poset/poset/core/Marking", "mix", "(JJ)J"⟩ : MethodName)) hown (hw _ (List.mem_of_getElem? (i := 10) rfl)) (hw _ (List.mem_of_getElem? (i := 11) rfl)) (hw _ (List.mem_of_getElem? (i := 4) rfl)) (hw _ (List.mem_of_getElem? (i := 12) rfl)) (by decide) (argsL := [(.long (2 : Int64)), (.long (t2.toInt64))]) (rest := [(.long (((0 : Int64) + m164) + m178))]) (own_rm3 l Z a0 hw [] (2 : Int64) (t2.toInt64)  h181 n0  ) (W := 2) (by decide) (by decide) (by decide) (by decide) rfl (by rw [hml]; rfl) (lenOf own_pd6 rfl) rfl (by show 2 * 0 + _ ≤ _; exact Nat.le_of_eq rfl) (hb hby own_d1_88) (fun T187 h189 v190 Y188 q191 => ?_)
     obtain ⟨m192, rfl, rfl⟩ := q191
     show own_Ends _ _ _ _ (T187.setTop (mkF m 91 #[.val (.ref r0), .val (.int (3 : Int32)), .val (.ref b146), .val (.long (((0 : Int64) + m164) + m178)), .second, .val (.int (3 : Int32)), .val (.int (2 : Int32))] [(.long m192), (.long (((0 : Int64) + m164) + m178))]))
     refine own_st (fun t_ => XS.ladd (own_here Y188) hx rfl (hb hby own_d1_91) rfl) ?_
     show own_Ends _ _ _ _ (T187.setTop (mkF m 92 #[.val (.ref r0), .val (.int (3 : Int32)), .val (.ref b146), .val (.long (((0 : Int64) + m164) + m178)), .second, .val (.int (3 : Int32)), .val (.int (2 : Int32))] [(.long ((((0 : Int64) + m164) + m178) + m192))]))
     refine own_st (fun t_ => XS.lstoreN (own_here Y188) hx rfl (hb hby own_d1_92) rfl (l' := #[.val (.ref r0), .val (.int (3 : Int32)), .val (.ref b146), .val (.long ((((0 : Int64) + m164) + m178) + m192)), .second, .val (.int (3 : Int32)), .val (.int (2 : Int32))]) rfl) ?_
     show own_Ends _ _ _ _ (T187.setTop (mkF m 93 #[.val (.ref r0), .val (.int (3 : Int32)), .val (.ref b146), .val (.long ((((0 : Int64) + m164) + m178) + m192)), .second, .val (.int (3 : Int32)), .val (.int (2 : Int32))] []))
     refine own_st (fun t_ => XS.iinc (own_here Y188) hx rfl (hb hby own_d1_93) rfl (l' := #[.val (.ref r0), .val (.int (3 : Int32)), .val (.ref b146), .val (.long ((((0 : Int64) + m164) + m178) + m192)), .second, .val (.int (3 : Int32)), .val (.int (3 : Int32))]) rfl) ?_
     show own_Ends _ _ _ _ (T187.setTop (mkF m 96 #[.val (.ref r0), .val (.int (3 : Int32)), .val (.ref b146), .val (.long ((((0 : Int64) + m164) + m178) + m192)), .second, .val (.int (3 : Int32)), .val (.int (3 : Int32))] []))
     refine own_st (fun t_ => XS.goto (own_here Y188) hx rfl (pc0 := 96) (pc' := 48) rfl (hb hby own_d1_96) (by decide) (by decide)) ?_
     show own_Ends _ _ _ _ (T187.setTop (mkF m 48 #[.val (.ref r0), .val (.int (3 : Int32)), .val (.ref b146), .val (.long ((((0 : Int64) + m164) + m178) + m192)), .second, .val (.int (3 : Int32)), .val (.int (3 : Int32))] []))
     refine own_st (fun t_ => XS.iload (own_here Y188) hx rfl (hb hby own_d1_48) rfl) ?_
     show own_Ends _ _ _ _ (T187.setTop (mkF m 50 #[.val (.ref r0), .val (.int (3 : Int32)), .val (.ref b146), .val (.long ((((0 : Int64) + m164) + m178) + m192)), .second, .val (.int (3 : Int32)), .val (.int (3 : Int32))] [(.int (3 : Int32))]))
     refine own_st (fun t_ => XS.aloadN (own_here Y188) hx rfl (hb hby own_d1_50) rfl rfl) ?_
     show own_Ends _ _ _ _ (T187.setTop (mkF m 51 #[.val (.ref r0), .val (.int (3 : Int32)), .val (.ref b146), .val (.long ((((0 : Int64) + m164) + m178) + m192)), .second, .val (.int (3 : Int32)), .val (.int (3 : Int32))] [(.ref r0), (.int (3 : Int32))]))
     refine own_len Y188 hx hZ f186 (z := (3 : Int32)) rfl rfl rfl (hb hby own_d1_51) ?_
     show own_Ends _ _ _ _ (T187.setTop (mkF m 52 #[.val (.ref r0), .val (.int (3 : Int32)), .val (.ref b146), .val (.long ((((0 : Int64) + m164) + m178) + m192)), .second, .val (.int (3 : Int32)), .val (.int (3 : Int32))] [(.int (3 : Int32)), (.int (3 : Int32))]))
     refine own_st (fun t_ => XS.icmpYes (own_here Y188) hx rfl (pc0 := 52) (pc' := 99) rfl (hb hby own_d1_52) rfl (XT.ii_ge_t (by decide)) (by decide) (by decide)) ?_
     show own_Ends _ _ _ _ (T187.setTop (mkF m 99 #[.val (.ref r0), .val (.int (3 : Int32)), .val (.ref b146), .val (.long ((((0 : Int64) + m164) + m178) + m192)), .second, .val (.int (3 : Int32)), .val (.int (3 : Int32))] []))
     refine own_new Y188 hx hZ hown (hw _ (List.mem_of_getElem? (i := 14) rfl)) (hw _ (List.mem_of_getElem? (i := 15) rfl)) (hw _ (List.mem_of_getElem? (i := 4) rfl)) rfl (hb hby own_d1_99) (by decide) (by decide) (fun T193 h195 b199 eb200 Y194 E196 X197 D198 => ?_)
     have ne201 : r0 ≠ b199 := Nat.ne_of_lt (by rw [eb200]; exact f186.lt)
     have ne202 : b146 ≠ b199 := Nat.ne_of_lt (by rw [eb200]; exact F185.lt)
     have z204 : n0 ≤ h143.size := Nat.le_trans Z0 E144.1
     have z205 : n0 ≤ h153.size := Nat.le_trans z204 K156.1
     have z206 : n0 ≤ h167.size := Nat.le_trans z205 K170.1
     have z207 : n0 ≤ h181.size := Nat.le_trans z206 K184.1
     have g203 : n0 ≤ b199 := by rw [eb200]; exact z207
     have F208 : Fld Z h195 b199 "com/example/poset/poset/core/Marking" "size" "I" (.int (0 : Int32)) := D198 _ _ _ .int (Or.inr (hw _ (List.mem_of_getElem? (i := 23) rfl))) (by decide)
     have F209 : Fld Z h195 b199 "com/example/poset/poset/core/Marking" "entries" "[J" .null := D198 _ _ _ (.array .long) (Or.inr (hw _ (List.mem_of_getElem? (i := 25) rfl))) (by decide)
     have F210 : Fld Z h195 b199 "com/example/poset/poset/core/Marking" "wide" "Z" (.int (0 : Int32)) := D198 _ _ _ .boolean (Or.inr (hw _ (List.mem_of_getElem? (i := 27) rfl))) (by decide)
     have F211 : Fld Z h195 b199 "com/example/poset/poset/core/Marking" "mixed" "J" (.long (0 : Int64)) := D198 _ _ _ .long (Or.inr (hw _ (List.mem_of_getElem? (i := 29) rfl))) (by decide)
     show own_Ends _ _ _ _ (T193.setTop (mkF m 102 #[.val (.ref r0), .val (.int (3 : Int32)), .val (.ref b146), .val (.long ((((0 : Int64) + m164) + m178) + m192)), .second, .val (.int (3 : Int32)), .val (.int (3 : Int32))] [(.ref b199)]))
     refine own_st (fun t_ => XS.dup (own_here Y194) hx rfl (hb hby own_d1_102) rfl rfl) ?_
     show own_Ends _ _ _ _ (T193.setTop (mkF m 103 #[.val (.ref r0), .val (.int (3 : Int32)), .val (.ref b146), .val (.long ((((0 : Int64) + m164) + m178) + m192)), .second, .val (.int (3 : Int32)), .val (.int (3 : Int32))] [(.ref b199), (.ref b199)]))
     refine own_st (fun t_ => XS.aloadN (own_here Y194) hx rfl (hb hby own_d1_103) rfl rfl) ?_
     show own_Ends _ _ _ _ (T193.setTop (mkF m 104 #[.val (.ref r0), .val (.int (3 : Int32)), .val (.ref b146), .val (.long ((((0 : Int64) + m164) + m178) + m192)), .second, .val (.int (3 : Int32)), .val (.int (3 : Int32))] [(.ref r0), (.ref b199), (.ref b199)]))
     have f212 : own_A Z h195 r0 .int [(.int t0), (.int t1), (.int t2)] := f186.ext E196
     refine own_len Y194 hx hZ f212 (z := (3 : Int32)) rfl rfl rfl (hb hby own_d1_104) ?_
     show own_Ends _ _ _ _ (T193.setTop (mkF m 105 #[.val (.ref r0), .val (.int (3 : Int32)), .val (.ref b146), .val (.long ((((0 : Int64) + m164) + m178) + m192)), .second, .val (.int (3 : Int32)), .val (.int (3 : Int32))] [(.int (3 : Int32)), (.ref b199), (.ref b199)]))
     refine own_st (fun t_ => XS.aloadN (own_here Y194) hx rfl (hb hby own_d1_105) rfl rfl) ?_
     show own_Ends _ _ _ _ (T193.setTop (mkF m 106 #[.val (.ref r0), .val (.int (3 : Int32)), .val (.ref b146), .val (.long ((((0 : Int64) + m164) + m178) + m192)), .second, .val (.int (3 : Int32)), .val (.int (3 : Int32))] [(.ref b146), (.int (3 : Int32)), (.ref b199), (.ref b199)]))
     refine own_st (fun t_ => XS.iconst (own_here Y194) hx rfl (hb hby own_d1_106) ) ?_
     show own_Ends _ _ _ _ (T193.setTop (mkF m 107 #[.val (.ref r0), .val (.int (3 : Int32)), .val (.ref b146), .val (.long ((((0 : Int64) + m164) + m178) + m192)), .second, .val (.int (3 : Int32)), .val (.int (3 : Int32))] [(.int (0 : Int32)), (.ref b146), (.int (3 : Int32)), (.ref b199), (.ref b199)]))
     refine own_st (fun t_ => XS.lloadN (own_here Y194) hx rfl (hb hby own_d1_107) rfl) ?_
     show own_Ends _ _ _ _ (T193.setTop (mkF m 108 #[.val (.ref r0), .val (.int (3 : Int32)), .val (.ref b146), .val (.long ((((0 : Int64) + m164) + m178) + m192)), .second, .val (.int (3 : Int32)), .val (.int (3 : Int32))] [(.long ((((0 : Int64) + m164) + m178) + m192)), (.int (0 : Int32)), (.ref b146), (.int (3 : Int32)), (.ref b199), (.ref b199)]))
     refine own_callN Y194 hx hZ (y := (⟨"com/example/poset/poset/core/Marking", "<init>", "(I[JZJ)V"⟩ : MethodName)) rfl hown (hw _ (List.mem_of_getElem? (i := 16) rfl)) (hw _ (List.mem_of_getElem? (i := 17) rfl)) (hw _ (List.mem_of_getElem? (i := 4) rfl)) (hw _ (List.mem_of_getElem? (i := 18) rfl)) (by decide) (a := b199) (argsL := [(.int (3 : Int32)), (.ref b146), (.int (0 : Int32)), (.long ((((0 : Int64) + m164) + m178) + m192))]) (rest := [(.ref b199)]) (own_rm4 l Z a0 hw [] b199 (3 : Int32) b146 ((((0 : Int64) + m164) + m178) + m192)  h195 n0  X197 F208 F209 F210 F211 g203) (W := 1) (by decide) (by decide) (by decide) (by decide) rfl (by rw [hml]; rfl) (lenOf own_pd7 rfl) rfl (by show 2 * 0 + _ ≤ _; exact Nat.le_of_eq rfl) (hb hby own_d1_108) (fun T213 h215 v216 Y214 q217 => ?_)
     obtain ⟨rfl, K218, F219, F220, F221⟩ := q217
     show own_Ends _ _ _ _ (T213.setTop (mkF m 111 #[.val (.ref r0), .val (.int (3 : Int32)), .val (.ref b146), .val (.long ((((0 : Int64) + m164) + m178) + m192)), .second, .val (.int (3 : Int32)), .val (.int (3 : Int32))] [(.ref b199)]))
     have z222 : n0 ≤ h195.size := Nat.le_trans z207 E196.1
     have z223 : n0 ≤ h215.size := Nat.le_trans z222 K218.1
     have f224 : own_A Z h195 b146 .long [(.long (own_E (0 : Int32) t0)), (.long (own_E (1 : Int32) t1)), (.long (own_E (2 : Int32) t2))] := F185.ext E196
     have f225 : own_A Z h215 b146 .long [(.long (own_E (0 : Int32) t0)), (.long (own_E (1 : Int32) t1)), (.long (own_E (2 : Int32) t2))] := f224.keep K218 (ninS ne202 nin0)
     have hes : own_es t0 t1 t2 = [(own_E (0 : Int32) t0), (own_E (1 : Int32) t1), (own_E (2 : Int32) t2)] := by simp [own_es, c24_138, c24_139, c24_140]
     have f226 : Exa Z h215 b199 "com/example/poset/poset/core/Marking" := X197.keep K218
     refine own_retA Y214 hx hlk hret rfl rfl rfl (hb hby own_d1_111) (by decide) (by decide) ?_
     exact ⟨_, _, rfl, z223, f226, F219, F220, F221, by rw [hes]; exact f225⟩
    ·
     refine own_st (fun t_ => XS.ifYes (own_here Y0) hx rfl (pc0 := 24) (pc' := 30) rfl (hb hby own_d1_24) rfl (XT.i0_le_t c24_140) (by decide) (by decide)) ?_
     show own_Ends _ _ _ _ (T0.setTop (mkF m 30 #[.val (.ref r0), .val (.int (2 : Int32)), .val (.ref r0), .val (.int (3 : Int32)), .val (.int (2 : Int32)), .val (.int t2), .unset] []))
     refine own_st (fun t_ => XS.iinc (own_here Y0) hx rfl (hb hby own_d1_30) rfl (l' := #[.val (.ref r0), .val (.int (2 : Int32)), .val (.ref r0), .val (.int (3 : Int32)), .val (.int (3 : Int32)), .val (.int t2), .unset]) rfl) ?_
     show own_Ends _ _ _ _ (T0.setTop (mkF m 33 #[.val (.ref r0), .val (.int (2 : Int32)), .val (.ref r0), .val (.int (3 : Int32)), .val (.int (3 : Int32)), .val (.int t2), .unset] []))
     refine own_st (fun t_ => XS.goto (own_here Y0) hx rfl (pc0 := 33) (pc' := 10) rfl (hb hby own_d1_33) (by decide) (by decide)) ?_
     show own_Ends _ _ _ _ (T0.setTop (mkF m 10 #[.val (.ref r0), .val (.int (2 : Int32)), .val (.ref r0), .val (.int (3 : Int32)), .val (.int (3 : Int32)), .val (.int t2), .unset] []))
     refine own_st (fun t_ => XS.iload (own_here Y0) hx rfl (hb hby own_d1_10) rfl) ?_
     show own_Ends _ _ _ _ (T0.setTop (mkF m 12 #[.val (.ref r0), .val (.int (2 : Int32)), .val (.ref r0), .val (.int (3 : Int32)), .val (.int (3 : Int32)), .val (.int t2), .unset] [(.int (3 : Int32))]))
     refine own_st (fun t_ => XS.iloadN (own_here Y0) hx rfl (hb hby own_d1_12) rfl) ?_
     show own_Ends _ _ _ _ (T0.setTop (mkF m 13 #[.val (.ref r0), .val (.int (2 : Int32)), .val (.ref r0), .val (.int (3 : Int32)), .val (.int (3 : Int32)), .val (.int t2), .unset] [(.int (3 : Int32)), (.int (3 : Int32))]))
     refine own_st (fun t_ => XS.icmpYes (own_here Y0) hx rfl (pc0 := 13) (pc' := 36) rfl (hb hby own_d1_13) rfl (XT.ii_ge_t (by decide)) (by decide) (by decide)) ?_
     show own_Ends _ _ _ _ (T0.setTop (mkF m 36 #[.val (.ref r0), .val (.int (2 : Int32)), .val (.ref r0), .val (.int (3 : Int32)), .val (.int (3 : Int32)), .val (.int t2), .unset] []))
     refine own_st (fun t_ => XS.iloadN (own_here Y0) hx rfl (hb hby own_d1_36) rfl) ?_
     show own_Ends _ _ _ _ (T0.setTop (mkF m 37 #[.val (.ref r0), .val (.int (2 : Int32)), .val (.ref r0), .val (.int (3 : Int32)), .val (.int (3 : Int32)), .val (.int t2), .unset] [(.int (2 : Int32))]))
     refine own_newP Y0 hx hZ (hw _ (List.mem_of_getElem? (i := 6) rfl)) rfl (hb hby own_d1_37) rfl (by decide) (nz := 2) (cap := 2) (by decide) (by decide) (by decide) (by decide) (by decide) (ty := .long) rfl (fun T227 h229 b232 eb233 Y228 E230 A231 => ?_)
     have ne234 : r0 ≠ b232 := Nat.ne_of_lt (by rw [eb233]; exact A.lt)
     have g235 : n0 ≤ b232 := by rw [eb233]; exact Z0
     replace A231 : own_A Z h229 b232 .long [(.long (0 : Int64)), (.long (0 : Int64))] := A231
     show own_Ends _ _ _ _ (T227.setTop (mkF m 39 #[.val (.ref r0), .val (.int (2 : Int32)), .val (.ref r0), .val (.int (3 : Int32)), .val (.int (3 : Int32)), .val (.int t2), .unset] [(.ref b232)]))
     refine own_st (fun t_ => XS.astoreN (own_here Y228) hx rfl (hb hby own_d1_39) rfl rfl (l' := #[.val (.ref r0), .val (.int (2 : Int32)), .val (.ref b232), .val (.int (3 : Int32)), .val (.int (3 : Int32)), .val (.int t2), .unset]) rfl) ?_
     show own_Ends _ _ _ _ (T227.setTop (mkF m 40 #[.val (.ref r0), .val (.int (2 : Int32)), .val (.ref b232), .val (.int (3 : Int32)), .val (.int (3 : Int32)), .val (.int t2), .unset] []))
     refine own_st (fun t_ => XS.lconst (own_here Y228) hx rfl (hb hby own_d1_40) ) ?_
     show own_Ends _ _ _ _ (T227.setTop (mkF m 41 #[.val (.ref r0), .val (.int (2 : Int32)), .val (.ref b232), .val (.int (3 : Int32)), .val (.int (3 : Int32)), .val (.int t2), .unset] [(.long (0 : Int64))]))
     refine own_st (fun t_ => XS.lstoreN (own_here Y228) hx rfl (hb hby own_d1_41) rfl (l' := #[.val (.ref r0), .val (.int (2 : Int32)), .val (.ref b232), .val (.long (0 : Int64)), .second, .val (.int t2), .unset]) rfl) ?_
     show own_Ends _ _ _ _ (T227.setTop (mkF m 42 #[.val (.ref r0), .val (.int (2 : Int32)), .val (.ref b232), .val (.long (0 : Int64)), .second, .val (.int t2), .unset] []))
     refine own_st (fun t_ => XS.iconst (own_here Y228) hx rfl (hb hby own_d1_42) ) ?_
     show own_Ends _ _ _ _ (T227.setTop (mkF m 43 #[.val (.ref r0), .val (.int (2 : Int32)), .val (.ref b232), .val (.long (0 : Int64)), .second, .val (.int t2), .unset] [(.int (0 : Int32))]))
     refine own_st (fun t_ => XS.istore (own_here Y228) hx rfl (hb hby own_d1_43) rfl (l' := #[.val (.ref r0), .val (.int (2 : Int32)), .val (.ref b232), .val (.long (0 : Int64)), .second, .val (.int (0 : Int32)), .unset]) rfl) ?_
     show own_Ends _ _ _ _ (T227.setTop (mkF m 45 #[.val (.ref r0), .val (.int (2 : Int32)), .val (.ref b232), .val (.long (0 : Int64)), .second, .val (.int (0 : Int32)), .unset] []))
     refine own_st (fun t_ => XS.iconst (own_here Y228) hx rfl (hb hby own_d1_45) ) ?_
     show own_Ends _ _ _ _ (T227.setTop (mkF m 46 #[.val (.ref r0), .val (.int (2 : Int32)), .val (.ref b232), .val (.long (0 : Int64)), .second, .val (.int (0 : Int32)), .unset] [(.int (0 : Int32))]))
     refine own_st (fun t_ => XS.istore (own_here Y228) hx rfl (hb hby own_d1_46) rfl (l' := #[.val (.ref r0), .val (.int (2 : Int32)), .val (.ref b232), .val (.long (0 : Int64)), .second, .val (.int (0 : Int32)), .val (.int (0 : Int32))]) rfl) ?_
     show own_Ends _ _ _ _ (T227.setTop (mkF m 48 #[.val (.ref r0), .val (.int (2 : Int32)), .val (.ref b232), .val (.long (0 : Int64)), .second, .val (.int (0 : Int32)), .val (.int (0 : Int32))] []))
     refine own_st (fun t_ => XS.iload (own_here Y228) hx rfl (hb hby own_d1_48) rfl) ?_
     show own_Ends _ _ _ _ (T227.setTop (mkF m 50 #[.val (.ref r0), .val (.int (2 : Int32)), .val (.ref b232), .val (.long (0 : Int64)), .second, .val (.int (0 : Int32)), .val (.int (0 : Int32))] [(.int (0 : Int32))]))
     refine own_st (fun t_ => XS.aloadN (own_here Y228) hx rfl (hb hby own_d1_50) rfl rfl) ?_
     show own_Ends _ _ _ _ (T227.setTop (mkF m 51 #[.val (.ref r0), .val (.int (2 : Int32)), .val (.ref b232), .val (.long (0 : Int64)), .second, .val (.int (0 : Int32)), .val (.int (0 : Int32))] [(.ref r0), (.int (0 : Int32))]))
     have f236 : own_A Z h229 r0 .int [(.int t0), (.int t1), (.int t2)] := A.ext E230
     refine own_len Y228 hx hZ f236 (z := (3 : Int32)) rfl rfl rfl (hb hby own_d1_51) ?_
     show own_Ends _ _ _ _ (T227.setTop (mkF m 52 #[.val (.ref r0), .val (.int (2 : Int32)), .val (.ref b232), .val (.long (0 : Int64)), .second, .val (.int (0 : Int32)), .val (.int (0 : Int32))] [(.int (3 : Int32)), (.int (0 : Int32))]))
     refine own_st (fun t_ => XS.icmpNo (own_here Y228) hx rfl (hb hby own_d1_52) rfl (XT.ii_ge_f (by decide))) ?_
     show own_Ends _ _ _ _ (T227.setTop (mkF m 55 #[.val (.ref r0), .val (.int (2 : Int32)), .val (.ref b232), .val (.long (0 : Int64)), .second, .val (.int (0 : Int32)), .val (.int (0 : Int32))] []))
     refine own_st (fun t_ => XS.aloadN (own_here Y228) hx rfl (hb hby own_d1_55) rfl rfl) ?_
     show own_Ends _ _ _ _ (T227.setTop (mkF m 56 #[.val (.ref r0), .val (.int (2 : Int32)), .val (.ref b232), .val (.long (0 : Int64)), .second, .val (.int (0 : Int32)), .val (.int (0 : Int32))] [(.ref r0)]))
     refine own_st (fun t_ => XS.iload (own_here Y228) hx rfl (hb hby own_d1_56) rfl) ?_
     show own_Ends _ _ _ _ (T227.setTop (mkF m 58 #[.val (.ref r0), .val (.int (2 : Int32)), .val (.ref b232), .val (.long (0 : Int64)), .second, .val (.int (0 : Int32)), .val (.int (0 : Int32))] [(.int (0 : Int32)), (.ref r0)]))
     refine own_ldI Y228 hx hZ f236 (i := 0) (by decide) (by decide) (Nat.le_of_ble_eq_true rfl) (v := (.int t0)) rfl rfl rfl (hb hby own_d1_58) ?_
     show own_Ends _ _ _ _ (T227.setTop (mkF m 59 #[.val (.ref r0), .val (.int (2 : Int32)), .val (.ref b232), .val (.long (0 : Int64)), .second, .val (.int (0 : Int32)), .val (.int (0 : Int32))] [(.int t0)]))
     refine own_st (fun t_ => XS.ifNo (own_here Y228) hx rfl (hb hby own_d1_59) rfl (XT.i0_le_f c24_138)) ?_
     show own_Ends _ _ _ _ (T227.setTop (mkF m 62 #[.val (.ref r0), .val (.int (2 : Int32)), .val (.ref b232), .val (.long (0 : Int64)), .second, .val (.int (0 : Int32)), .val (.int (0 : Int32))] []))
     refine own_st (fun t_ => XS.aloadN (own_here Y228) hx rfl (hb hby own_d1_62) rfl rfl) ?_
     show own_Ends _ _ _ _ (T227.setTop (mkF m 63 #[.val (.ref r0), .val (.int (2 : Int32)), .val (.ref b232), .val (.long (0 : Int64)), .second, .val (.int (0 : Int32)), .val (.int (0 : Int32))] [(.ref b232)]))
     refine own_st (fun t_ => XS.iconst (own_here Y228) hx rfl (hb hby own_d1_63) ) ?_
     show own_Ends _ _ _ _ (T227.setTop (mkF m 64 #[.val (.ref r0), .val (.int (2 : Int32)), .val (.ref b232), .val (.long (0 : Int64)), .second, .val (.int (0 : Int32)), .val (.int (0 : Int32))] [(.int (0 : Int32)), (.ref b232)]))
     refine own_st (fun t_ => XS.iload (own_here Y228) hx rfl (hb hby own_d1_64) rfl) ?_
     show own_Ends _ _ _ _ (T227.setTop (mkF m 66 #[.val (.ref r0), .val (.int (2 : Int32)), .val (.ref b232), .val (.long (0 : Int64)), .second, .val (.int (0 : Int32)), .val (.int (0 : Int32))] [(.int (0 : Int32)), (.int (0 : Int32)), (.ref b232)]))
     refine own_st (fun t_ => XS.iinc (own_here Y228) hx rfl (hb hby own_d1_66) rfl (l' := #[.val (.ref r0), .val (.int (2 : Int32)), .val (.ref b232), .val (.long (0 : Int64)), .second, .val (.int (1 : Int32)), .val (.int (0 : Int32))]) rfl) ?_
     show own_Ends _ _ _ _ (T227.setTop (mkF m 69 #[.val (.ref r0), .val (.int (2 : Int32)), .val (.ref b232), .val (.long (0 : Int64)), .second, .val (.int (1 : Int32)), .val (.int (0 : Int32))] [(.int (0 : Int32)), (.int (0 : Int32)), (.ref b232)]))
     refine own_st (fun t_ => XS.iload (own_here Y228) hx rfl (hb hby own_d1_69) rfl) ?_
     show own_Ends _ _ _ _ (T227.setTop (mkF m 71 #[.val (.ref r0), .val (.int (2 : Int32)), .val (.ref b232), .val (.long (0 : Int64)), .second, .val (.int (1 : Int32)), .val (.int (0 : Int32))] [(.int (0 : Int32)), (.int (0 : Int32)), (.int (0 : Int32)), (.ref b232)]))
     refine own_st (fun t_ => XS.aloadN (own_here Y228) hx rfl (hb hby own_d1_71) rfl rfl) ?_
     show own_Ends _ _ _ _ (T227.setTop (mkF m 72 #[.val (.ref r0), .val (.int (2 : Int32)), .val (.ref b232), .val (.long (0 : Int64)), .second, .val (.int (1 : Int32)), .val (.int (0 : Int32))] [(.ref r0), (.int (0 : Int32)), (.int (0 : Int32)), (.int (0 : Int32)), (.ref b232)]))
     refine own_st (fun t_ => XS.iload (own_here Y228) hx rfl (hb hby own_d1_72) rfl) ?_
     show own_Ends _ _ _ _ (T227.setTop (mkF m 74 #[.val (.ref r0), .val (.int (2 : Int32)), .val (.ref b232), .val (.long (0 : Int64)), .second, .val (.int (1 : Int32)), .val (.int (0 : Int32))] [(.int (0 : Int32)), (.ref r0), (.int (0 : Int32)), (.int (0 : Int32)), (.int (0 : Int32)), (.ref b232)]))
     refine own_ldI Y228 hx hZ f236 (i := 0) (by decide) (by decide) (Nat.le_of_ble_eq_true rfl) (v := (.int t0)) rfl rfl rfl (hb hby own_d1_74) ?_
     show own_Ends _ _ _ _ (T227.setTop (mkF m 75 #[.val (.ref r0), .val (.int (2 : Int32)), .val (.ref b232), .val (.long (0 : Int64)), .second, .val (.int (1 : Int32)), .val (.int (0 : Int32))] [(.int t0), (.int (0 : Int32)), (.int (0 : Int32)), (.int (0 : Int32)), (.ref b232)]))
     refine own_st (fun t_ => XS.i2l (own_here Y228) hx rfl (hb hby own_d1_75) rfl) ?_
     show own_Ends _ _ _ _ (T227.setTop (mkF m 76 #[.val (.ref r0), .val (.int (2 : Int32)), .val (.ref b232), .val (.long (0 : Int64)), .second, .val (.int (1 : Int32)), .val (.int (0 : Int32))] [(.long (t0.toInt64)), (.int (0 : Int32)), (.int (0 : Int32)), (.int (0 : Int32)), (.ref b232)]))
     refine own_callS Y228 hx hZ (y := (⟨"com/example/poset/poset/core/Marking", "put", "([JZIIJ)V"⟩ : MethodName)) hown (hw _ (List.mem_of_getElem? (i := 7) rfl)) (hw _ (List.mem_of_getElem? (i := 8) rfl)) (hw _ (List.mem_of_getElem? (i := 4) rfl)) (hw _ (List.mem_of_getElem? (i := 9) rfl)) (by decide) (argsL := [(.ref b232), (.int (0 : Int32)), (.int (0 : Int32)), (.int (0 : Int32)), (.long (t0.toInt64))]) (rest := []) (own_rm2_2_0 l Z a0 hw [] b232 (0 : Int32) (t0.toInt64) (0 : Int64) (0 : Int64) t0 h229 n0  A231 g235 rfl) (W := 0) (by decide) (by decide) (by decide) (by decide) rfl (by rw [hml]; rfl) (lenOf own_pd5 rfl) rfl (by show 2 * 0 + _ ≤ _; exact Nat.le_of_eq rfl) (hb hby own_d1_76) (fun T237 h239 v240 Y238 q241 => ?_)
     obtain ⟨rfl, K242, F243⟩ := q241
     show own_Ends _ _ _ _ (T237.setTop (mkF m 79 #[.val (.ref r0), .val (.int (2 : Int32)), .val (.ref b232), .val (.long (0 : Int64)), .second, .val (.int (1 : Int32)), .val (.int (0 : Int32))] []))
     refine own_st (fun t_ => XS.lloadN (own_here Y238) hx rfl (hb hby own_d1_79) rfl) ?_
     show own_Ends _ _ _ _ (T237.setTop (mkF m 80 #[.val (.ref r0), .val (.int (2 : Int32)), .val (.ref b232), .val (.long (0 : Int64)), .second, .val (.int (1 : Int32)), .val (.int (0 : Int32))] [(.long (0 : Int64))]))
     refine own_st (fun t_ => XS.iload (own_here Y238) hx rfl (hb hby own_d1_80) rfl) ?_
     show own_Ends _ _ _ _ (T237.setTop (mkF m 82 #[.val (.ref r0), .val (.int (2 : Int32)), .val (.ref b232), .val (.long (0 : Int64)), .second, .val (.int (1 : Int32)), .val (.int (0 : Int32))] [(.int (0 : Int32)), (.long (0 : Int64))]))
     refine own_st (fun t_ => XS.i2l (own_here Y238) hx rfl (hb hby own_d1_82) rfl) ?_
     show own_Ends _ _ _ _ (T237.setTop (mkF m 83 #[.val (.ref r0), .val (.int (2 : Int32)), .val (.ref b232), .val (.long (0 : Int64)), .second, .val (.int (1 : Int32)), .val (.int (0 : Int32))] [(.long (0 : Int64)), (.long (0 : Int64))]))
     refine own_st (fun t_ => XS.aloadN (own_here Y238) hx rfl (hb hby own_d1_83) rfl rfl) ?_
     show own_Ends _ _ _ _ (T237.setTop (mkF m 84 #[.val (.ref r0), .val (.int (2 : Int32)), .val (.ref b232), .val (.long (0 : Int64)), .second, .val (.int (1 : Int32)), .val (.int (0 : Int32))] [(.ref r0), (.long (0 : Int64)), (.long (0 : Int64))]))
     refine own_st (fun t_ => XS.iload (own_here Y238) hx rfl (hb hby own_d1_84) rfl) ?_
     show own_Ends _ _ _ _ (T237.setTop (mkF m 86 #[.val (.ref r0), .val (.int (2 : Int32)), .val (.ref b232), .val (.long (0 : Int64)), .second, .val (.int (1 : Int32)), .val (.int (0 : Int32))] [(.int (0 : Int32)), (.ref r0), (.long (0 : Int64)), (.long (0 : Int64))]))
     have f244 : own_A Z h239 r0 .int [(.int t0), (.int t1), (.int t2)] := f236.keep K242 (ninS ne234 nin0)
     refine own_ldI Y238 hx hZ f244 (i := 0) (by decide) (by decide) (Nat.le_of_ble_eq_true rfl) (v := (.int t0)) rfl rfl rfl (hb hby own_d1_86) ?_
     show own_Ends _ _ _ _ (T237.setTop (mkF m 87 #[.val (.ref r0), .val (.int (2 : Int32)), .val (.ref b232), .val (.long (0 : Int64)), .second, .val (.int (1 : Int32)), .val (.int (0 : Int32))] [(.int t0), (.long (0 : Int64)), (.long (0 : Int64))]))
     refine own_st (fun t_ => XS.i2l (own_here Y238) hx rfl (hb hby own_d1_87) rfl) ?_
     show own_Ends _ _ _ _ (T237.setTop (mkF m 88 #[.val (.ref r0), .val (.int (2 : Int32)), .val (.ref b232), .val (.long (0 : Int64)), .second, .val (.int (1 : Int32)), .val (.int (0 : Int32))] [(.long (t0.toInt64)), (.long (0 : Int64)), (.long (0 : Int64))]))
     refine own_callS Y238 hx hZ (y := (⟨"com/example/poset/poset/core/Marking", "mix", "(JJ)J"⟩ : MethodName)) hown (hw _ (List.mem_of_getElem? (i := 10) rfl)) (hw _ (List.mem_of_getElem? (i := 11) rfl)) (hw _ (List.mem_of_getElem? (i := 4) rfl)) (hw _ (List.mem_of_getElem? (i := 12) rfl)) (by decide) (argsL := [(.long (0 : Int64)), (.long (t0.toInt64))]) (rest := [(.long (0 : Int64))]) (own_rm3 l Z a0 hw [] (0 : Int64) (t0.toInt64)  h239 n0  ) (W := 2) (by decide) (by decide) (by decide) (by decide) rfl (by rw [hml]; rfl) (lenOf own_pd6 rfl) rfl (by show 2 * 0 + _ ≤ _; exact Nat.le_of_eq rfl) (hb hby own_d1_88) (fun T245 h247 v248 Y246 q249 => ?_)
     obtain ⟨m250, rfl, rfl⟩ := q249
     show own_Ends _ _ _ _ (T245.setTop (mkF m 91 #[.val (.ref r0), .val (.int (2 : Int32)), .val (.ref b232), .val (.long (0 : Int64)), .second, .val (.int (1 : Int32)), .val (.int (0 : Int32))] [(.long m250), (.long (0 : Int64))]))
     refine own_st (fun t_ => XS.ladd (own_here Y246) hx rfl (hb hby own_d1_91) rfl) ?_
     show own_Ends _ _ _ _ (T245.setTop (mkF m 92 #[.val (.ref r0), .val (.int (2 : Int32)), .val (.ref b232), .val (.long (0 : Int64)), .second, .val (.int (1 : Int32)), .val (.int (0 : Int32))] [(.long ((0 : Int64) + m250))]))
     refine own_st (fun t_ => XS.lstoreN (own_here Y246) hx rfl (hb hby own_d1_92) rfl (l' := #[.val (.ref r0), .val (.int (2 : Int32)), .val (.ref b232), .val (.long ((0 : Int64) + m250)), .second, .val (.int (1 : Int32)), .val (.int (0 : Int32))]) rfl) ?_
     show own_Ends _ _ _ _ (T245.setTop (mkF m 93 #[.val (.ref r0), .val (.int (2 : Int32)), .val (.ref b232), .val (.long ((0 : Int64) + m250)), .second, .val (.int (1 : Int32)), .val (.int (0 : Int32))] []))
     refine own_st (fun t_ => XS.iinc (own_here Y246) hx rfl (hb hby own_d1_93) rfl (l' := #[.val (.ref r0), .val (.int (2 : Int32)), .val (.ref b232), .val (.long ((0 : Int64) + m250)), .second, .val (.int (1 : Int32)), .val (.int (1 : Int32))]) rfl) ?_
     show own_Ends _ _ _ _ (T245.setTop (mkF m 96 #[.val (.ref r0), .val (.int (2 : Int32)), .val (.ref b232), .val (.long ((0 : Int64) + m250)), .second, .val (.int (1 : Int32)), .val (.int (1 : Int32))] []))
     refine own_st (fun t_ => XS.goto (own_here Y246) hx rfl (pc0 := 96) (pc' := 48) rfl (hb hby own_d1_96) (by decide) (by decide)) ?_
     show own_Ends _ _ _ _ (T245.setTop (mkF m 48 #[.val (.ref r0), .val (.int (2 : Int32)), .val (.ref b232), .val (.long ((0 : Int64) + m250)), .second, .val (.int (1 : Int32)), .val (.int (1 : Int32))] []))
     refine own_st (fun t_ => XS.iload (own_here Y246) hx rfl (hb hby own_d1_48) rfl) ?_
     show own_Ends _ _ _ _ (T245.setTop (mkF m 50 #[.val (.ref r0), .val (.int (2 : Int32)), .val (.ref b232), .val (.long ((0 : Int64) + m250)), .second, .val (.int (1 : Int32)), .val (.int (1 : Int32))] [(.int (1 : Int32))]))
     refine own_st (fun t_ => XS.aloadN (own_here Y246) hx rfl (hb hby own_d1_50) rfl rfl) ?_
     show own_Ends _ _ _ _ (T245.setTop (mkF m 51 #[.val (.ref r0), .val (.int (2 : Int32)), .val (.ref b232), .val (.long ((0 : Int64) + m250)), .second, .val (.int (1 : Int32)), .val (.int (1 : Int32))] [(.ref r0), (.int (1 : Int32))]))
     refine own_len Y246 hx hZ f244 (z := (3 : Int32)) rfl rfl rfl (hb hby own_d1_51) ?_
     show own_Ends _ _ _ _ (T245.setTop (mkF m 52 #[.val (.ref r0), .val (.int (2 : Int32)), .val (.ref b232), .val (.long ((0 : Int64) + m250)), .second, .val (.int (1 : Int32)), .val (.int (1 : Int32))] [(.int (3 : Int32)), (.int (1 : Int32))]))
     refine own_st (fun t_ => XS.icmpNo (own_here Y246) hx rfl (hb hby own_d1_52) rfl (XT.ii_ge_f (by decide))) ?_
     show own_Ends _ _ _ _ (T245.setTop (mkF m 55 #[.val (.ref r0), .val (.int (2 : Int32)), .val (.ref b232), .val (.long ((0 : Int64) + m250)), .second, .val (.int (1 : Int32)), .val (.int (1 : Int32))] []))
     refine own_st (fun t_ => XS.aloadN (own_here Y246) hx rfl (hb hby own_d1_55) rfl rfl) ?_
     show own_Ends _ _ _ _ (T245.setTop (mkF m 56 #[.val (.ref r0), .val (.int (2 : Int32)), .val (.ref b232), .val (.long ((0 : Int64) + m250)), .second, .val (.int (1 : Int32)), .val (.int (1 : Int32))] [(.ref r0)]))
     refine own_st (fun t_ => XS.iload (own_here Y246) hx rfl (hb hby own_d1_56) rfl) ?_
     show own_Ends _ _ _ _ (T245.setTop (mkF m 58 #[.val (.ref r0), .val (.int (2 : Int32)), .val (.ref b232), .val (.long ((0 : Int64) + m250)), .second, .val (.int (1 : Int32)), .val (.int (1 : Int32))] [(.int (1 : Int32)), (.ref r0)]))
     refine own_ldI Y246 hx hZ f244 (i := 1) (by decide) (by decide) (Nat.le_of_ble_eq_true rfl) (v := (.int t1)) rfl rfl rfl (hb hby own_d1_58) ?_
     show own_Ends _ _ _ _ (T245.setTop (mkF m 59 #[.val (.ref r0), .val (.int (2 : Int32)), .val (.ref b232), .val (.long ((0 : Int64) + m250)), .second, .val (.int (1 : Int32)), .val (.int (1 : Int32))] [(.int t1)]))
     refine own_st (fun t_ => XS.ifNo (own_here Y246) hx rfl (hb hby own_d1_59) rfl (XT.i0_le_f c24_139)) ?_
     show own_Ends _ _ _ _ (T245.setTop (mkF m 62 #[.val (.ref r0), .val (.int (2 : Int32)), .val (.ref b232), .val (.long ((0 : Int64) + m250)), .second, .val (.int (1 : Int32)), .val (.int (1 : Int32))] []))
     refine own_st (fun t_ => XS.aloadN (own_here Y246) hx rfl (hb hby own_d1_62) rfl rfl) ?_
     show own_Ends _ _ _ _ (T245.setTop (mkF m 63 #[.val (.ref r0), .val (.int (2 : Int32)), .val (.ref b232), .val (.long ((0 : Int64) + m250)), .second, .val (.int (1 : Int32)), .val (.int (1 : Int32))] [(.ref b232)]))
     refine own_st (fun t_ => XS.iconst (own_here Y246) hx rfl (hb hby own_d1_63) ) ?_
     show own_Ends _ _ _ _ (T245.setTop (mkF m 64 #[.val (.ref r0), .val (.int (2 : Int32)), .val (.ref b232), .val (.long ((0 : Int64) + m250)), .second, .val (.int (1 : Int32)), .val (.int (1 : Int32))] [(.int (0 : Int32)), (.ref b232)]))
     refine own_st (fun t_ => XS.iload (own_here Y246) hx rfl (hb hby own_d1_64) rfl) ?_
     show own_Ends _ _ _ _ (T245.setTop (mkF m 66 #[.val (.ref r0), .val (.int (2 : Int32)), .val (.ref b232), .val (.long ((0 : Int64) + m250)), .second, .val (.int (1 : Int32)), .val (.int (1 : Int32))] [(.int (1 : Int32)), (.int (0 : Int32)), (.ref b232)]))
     refine own_st (fun t_ => XS.iinc (own_here Y246) hx rfl (hb hby own_d1_66) rfl (l' := #[.val (.ref r0), .val (.int (2 : Int32)), .val (.ref b232), .val (.long ((0 : Int64) + m250)), .second, .val (.int (2 : Int32)), .val (.int (1 : Int32))]) rfl) ?_
     show own_Ends _ _ _ _ (T245.setTop (mkF m 69 #[.val (.ref r0), .val (.int (2 : Int32)), .val (.ref b232), .val (.long ((0 : Int64) + m250)), .second, .val (.int (2 : Int32)), .val (.int (1 : Int32))] [(.int (1 : Int32)), (.int (0 : Int32)), (.ref b232)]))
     refine own_st (fun t_ => XS.iload (own_here Y246) hx rfl (hb hby own_d1_69) rfl) ?_
     show own_Ends _ _ _ _ (T245.setTop (mkF m 71 #[.val (.ref r0), .val (.int (2 : Int32)), .val (.ref b232), .val (.long ((0 : Int64) + m250)), .second, .val (.int (2 : Int32)), .val (.int (1 : Int32))] [(.int (1 : Int32)), (.int (1 : Int32)), (.int (0 : Int32)), (.ref b232)]))
     refine own_st (fun t_ => XS.aloadN (own_here Y246) hx rfl (hb hby own_d1_71) rfl rfl) ?_
     show own_Ends _ _ _ _ (T245.setTop (mkF m 72 #[.val (.ref r0), .val (.int (2 : Int32)), .val (.ref b232), .val (.long ((0 : Int64) + m250)), .second, .val (.int (2 : Int32)), .val (.int (1 : Int32))] [(.ref r0), (.int (1 : Int32)), (.int (1 : Int32)), (.int (0 : Int32)), (.ref b232)]))
     refine own_st (fun t_ => XS.iload (own_here Y246) hx rfl (hb hby own_d1_72) rfl) ?_
     show own_Ends _ _ _ _ (T245.setTop (mkF m 74 #[.val (.ref r0), .val (.int (2 : Int32)), .val (.ref b232), .val (.long ((0 : Int64) + m250)), .second, .val (.int (2 : Int32)), .val (.int (1 : Int32))] [(.int (1 : Int32)), (.ref r0), (.int (1 : Int32)), (.int (1 : Int32)), (.int (0 : Int32)), (.ref b232)]))
     refine own_ldI Y246 hx hZ f244 (i := 1) (by decide) (by decide) (Nat.le_of_ble_eq_true rfl) (v := (.int t1)) rfl rfl rfl (hb hby own_d1_74) ?_
     show own_Ends _ _ _ _ (T245.setTop (mkF m 75 #[.val (.ref r0), .val (.int (2 : Int32)), .val (.ref b232), .val (.long ((0 : Int64) + m250)), .second, .val (.int (2 : Int32)), .val (.int (1 : Int32))] [(.int t1), (.int (1 : Int32)), (.int (1 : Int32)), (.int (0 : Int32)), (.ref b232)]))
     refine own_st (fun t_ => XS.i2l (own_here Y246) hx rfl (hb hby own_d1_75) rfl) ?_
     show own_Ends _ _ _ _ (T245.setTop (mkF m 76 #[.val (.ref r0), .val (.int (2 : Int32)), .val (.ref b232), .val (.long ((0 : Int64) + m250)), .second, .val (.int (2 : Int32)), .val (.int (1 : Int32))] [(.long (t1.toInt64)), (.int (1 : Int32)), (.int (1 : Int32)), (.int (0 : Int32)), (.ref b232)]))
     refine own_callS Y246 hx hZ (y := (⟨"com/example/poset/poset/core/Marking", "put", "([JZIIJ)V"⟩ : MethodName)) hown (hw _ (List.mem_of_getElem? (i := 7) rfl)) (hw _ (List.mem_of_getElem? (i := 8) rfl)) (hw _ (List.mem_of_getElem? (i := 4) rfl)) (hw _ (List.mem_of_getElem? (i := 9) rfl)) (by decide) (argsL := [(.ref b232), (.int (0 : Int32)), (.int (1 : Int32)), (.int (1 : Int32)), (.long (t1.toInt64))]) (rest := []) (own_rm2_2_1 l Z a0 hw [] b232 (1 : Int32) (t1.toInt64) (own_E (0 : Int32) t0) (0 : Int64) t1 h239 n0  F243 g235 rfl) (W := 0) (by decide) (by decide) (by decide) (by decide) rfl (by rw [hml]; rfl) (lenOf own_pd5 rfl) rfl (by show 2 * 0 + _ ≤ _; exact Nat.le_of_eq rfl) (hb hby own_d1_76) (fun T251 h253 v254 Y252 q255 => ?_)
     obtain ⟨rfl, K256, F257⟩ := q255
     show own_Ends _ _ _ _ (T251.setTop (mkF m 79 #[.val (.ref r0), .val (.int (2 : Int32)), .val (.ref b232), .val (.long ((0 : Int64) + m250)), .second, .val (.int (2 : Int32)), .val (.int (1 : Int32))] []))
     refine own_st (fun t_ => XS.lloadN (own_here Y252) hx rfl (hb hby own_d1_79) rfl) ?_
     show own_Ends _ _ _ _ (T251.setTop (mkF m 80 #[.val (.ref r0), .val (.int (2 : Int32)), .val (.ref b232), .val (.long ((0 : Int64) + m250)), .second, .val (.int (2 : Int32)), .val (.int (1 : Int32))] [(.long ((0 : Int64) + m250))]))
     refine own_st (fun t_ => XS.iload (own_here Y252) hx rfl (hb hby own_d1_80) rfl) ?_
     show own_Ends _ _ _ _ (T251.setTop (mkF m 82 #[.val (.ref r0), .val (.int (2 : Int32)), .val (.ref b232), .val (.long ((0 : Int64) + m250)), .second, .val (.int (2 : Int32)), .val (.int (1 : Int32))] [(.int (1 : Int32)), (.long ((0 : Int64) + m250))]))
     refine own_st (fun t_ => XS.i2l (own_here Y252) hx rfl (hb hby own_d1_82) rfl) ?_
     show own_Ends _ _ _ _ (T251.setTop (mkF m 83 #[.val (.ref r0), .val (.int (2 : Int32)), .val (.ref b232), .val (.long ((0 : Int64) + m250)), .second, .val (.int (2 : Int32)), .val (.int (1 : Int32))] [(.long (1 : Int64)), (.long ((0 : Int64) + m250))]))
     refine own_st (fun t_ => XS.aloadN (own_here Y252) hx rfl (hb hby own_d1_83) rfl rfl) ?_
     show own_Ends _ _ _ _ (T251.setTop (mkF m 84 #[.val (.ref r0), .val (.int (2 : Int32)), .val (.ref b232), .val (.long ((0 : Int64) + m250)), .second, .val (.int (2 : Int32)), .val (.int (1 : Int32))] [(.ref r0), (.long (1 : Int64)), (.long ((0 : Int64) + m250))]))
     refine own_st (fun t_ => XS.iload (own_here Y252) hx rfl (hb hby own_d1_84) rfl) ?_
     show own_Ends _ _ _ _ (T251.setTop (mkF m 86 #[.val (.ref r0), .val (.int (2 : Int32)), .val (.ref b232), .val (.long ((0 : Int64) + m250)), .second, .val (.int (2 : Int32)), .val (.int (1 : Int32))] [(.int (1 : Int32)), (.ref r0), (.long (1 : Int64)), (.long ((0 : Int64) + m250))]))
     have f258 : own_A Z h253 r0 .int [(.int t0), (.int t1), (.int t2)] := f244.keep K256 (ninS ne234 nin0)
     refine own_ldI Y252 hx hZ f258 (i := 1) (by decide) (by decide) (Nat.le_of_ble_eq_true rfl) (v := (.int t1)) rfl rfl rfl (hb hby own_d1_86) ?_
     show own_Ends _ _ _ _ (T251.setTop (mkF m 87 #[.val (.ref r0), .val (.int (2 : Int32)), .val (.ref b232), .val (.long ((0 : Int64) + m250)), .second, .val (.int (2 : Int32)), .val (.int (1 : Int32))] [(.int t1), (.long (1 : Int64)), (.long ((0 : Int64) + m250))]))
     refine own_st (fun t_ => XS.i2l (own_here Y252) hx rfl (hb hby own_d1_87) rfl) ?_
     show own_Ends _ _ _ _ (T251.setTop (mkF m 88 #[.val (.ref r0), .val (.int (2 : Int32)), .val (.ref b232), .val (.long ((0 : Int64) + m250)), .second, .val (.int (2 : Int32)), .val (.int (1 : Int32))] [(.long (t1.toInt64)), (.long (1 : Int64)), (.long ((0 : Int64) + m250))]))
     refine own_callS Y252 hx hZ (y := (⟨"com/example/poset/poset/core/Marking", "mix", "(JJ)J"⟩ : MethodName)) hown (hw _ (List.mem_of_getElem? (i := 10) rfl)) (hw _ (List.mem_of_getElem? (i := 11) rfl)) (hw _ (List.mem_of_getElem? (i := 4) rfl)) (hw _ (List.mem_of_getElem? (i := 12) rfl)) (by decide) (argsL := [(.long (1 : Int64)), (.long (t1.toInt64))]) (rest := [(.long ((0 : Int64) + m250))]) (own_rm3 l Z a0 hw [] (1 : Int64) (t1.toInt64)  h253 n0  ) (W := 2) (by decide) (by decide) (by decide) (by decide) rfl (by rw [hml]; rfl) (lenOf own_pd6 rfl) rfl (by show 2 * 0 + _ ≤ _; exact Nat.le_of_eq rfl) (hb hby own_d1_88) (fun T259 h261 v262 Y260 q263 => ?_)
     obtain ⟨m264, rfl, rfl⟩ := q263
     show own_Ends _ _ _ _ (T259.setTop (mkF m 91 #[.val (.ref r0), .val (.int (2 : Int32)), .val (.ref b232), .val (.long ((0 : Int64) + m250)), .second, .val (.int (2 : Int32)), .val (.int (1 : Int32))] [(.long m264), (.long ((0 : Int64) + m250))]))
     refine own_st (fun t_ => XS.ladd (own_here Y260) hx rfl (hb hby own_d1_91) rfl) ?_
     show own_Ends _ _ _ _ (T259.setTop (mkF m 92 #[.val (.ref r0), .val (.int (2 : Int32)), .val (.ref b232), .val (.long ((0 : Int64) + m250)), .second, .val (.int (2 : Int32)), .val (.int (1 : Int32))] [(.long (((0 : Int64) + m250) + m264))]))
     refine own_st (fun t_ => XS.lstoreN (own_here Y260) hx rfl (hb hby own_d1_92) rfl (l' := #[.val (.ref r0), .val (.int (2 : Int32)), .val (.ref b232), .val (.long (((0 : Int64) + m250) + m264)), .second, .val (.int (2 : Int32)), .val (.int (1 : Int32))]) rfl) ?_
     show own_Ends _ _ _ _ (T259.setTop (mkF m 93 #[.val (.ref r0), .val (.int (2 : Int32)), .val (.ref b232), .val (.long (((0 : Int64) + m250) + m264)), .second, .val (.int (2 : Int32)), .val (.int (1 : Int32))] []))
     refine own_st (fun t_ => XS.iinc (own_here Y260) hx rfl (hb hby own_d1_93) rfl (l' := #[.val (.ref r0), .val (.int (2 : Int32)), .val (.ref b232), .val (.long (((0 : Int64) + m250) + m264)), .second, .val (.int (2 : Int32)), .val (.int (2 : Int32))]) rfl) ?_
     show own_Ends _ _ _ _ (T259.setTop (mkF m 96 #[.val (.ref r0), .val (.int (2 : Int32)), .val (.ref b232), .val (.long (((0 : Int64) + m250) + m264)), .second, .val (.int (2 : Int32)), .val (.int (2 : Int32))] []))
     refine own_st (fun t_ => XS.goto (own_here Y260) hx rfl (pc0 := 96) (pc' := 48) rfl (hb hby own_d1_96) (by decide) (by decide)) ?_
     show own_Ends _ _ _ _ (T259.setTop (mkF m 48 #[.val (.ref r0), .val (.int (2 : Int32)), .val (.ref b232), .val (.long (((0 : Int64) + m250) + m264)), .second, .val (.int (2 : Int32)), .val (.int (2 : Int32))] []))
     refine own_st (fun t_ => XS.iload (own_here Y260) hx rfl (hb hby own_d1_48) rfl) ?_
     show own_Ends _ _ _ _ (T259.setTop (mkF m 50 #[.val (.ref r0), .val (.int (2 : Int32)), .val (.ref b232), .val (.long (((0 : Int64) + m250) + m264)), .second, .val (.int (2 : Int32)), .val (.int (2 : Int32))] [(.int (2 : Int32))]))
     refine own_st (fun t_ => XS.aloadN (own_here Y260) hx rfl (hb hby own_d1_50) rfl rfl) ?_
     show own_Ends _ _ _ _ (T259.setTop (mkF m 51 #[.val (.ref r0), .val (.int (2 : Int32)), .val (.ref b232), .val (.long (((0 : Int64) + m250) + m264)), .second, .val (.int (2 : Int32)), .val (.int (2 : Int32))] [(.ref r0), (.int (2 : Int32))]))
     refine own_len Y260 hx hZ f258 (z := (3 : Int32)) rfl rfl rfl (hb hby own_d1_51) ?_
     show own_Ends _ _ _ _ (T259.setTop (mkF m 52 #[.val (.ref r0), .val (.int (2 : Int32)), .val (.ref b232), .val (.long (((0 : Int64) + m250) + m264)), .second, .val (.int (2 : Int32)), .val (.int (2 : Int32))] [(.int (3 : Int32)), (.int (2 : Int32))]))
     refine own_st (fun t_ => XS.icmpNo (own_here Y260) hx rfl (hb hby own_d1_52) rfl (XT.ii_ge_f (by decide))) ?_
     show own_Ends _ _ _ _ (T259.setTop (mkF m 55 #[.val (.ref r0), .val (.int (2 : Int32)), .val (.ref b232), .val (.long (((0 : Int64) + m250) + m264)), .second, .val (.int (2 : Int32)), .val (.int (2 : Int32))] []))
     refine own_st (fun t_ => XS.aloadN (own_here Y260) hx rfl (hb hby own_d1_55) rfl rfl) ?_
     show own_Ends _ _ _ _ (T259.setTop (mkF m 56 #[.val (.ref r0), .val (.int (2 : Int32)), .val (.ref b232), .val (.long (((0 : Int64) + m250) + m264)), .second, .val (.int (2 : Int32)), .val (.int (2 : Int32))] [(.ref r0)]))
     refine own_st (fun t_ => XS.iload (own_here Y260) hx rfl (hb hby own_d1_56) rfl) ?_
     show own_Ends _ _ _ _ (T259.setTop (mkF m 58 #[.val (.ref r0), .val (.int (2 : Int32)), .val (.ref b232), .val (.long (((0 : Int64) + m250) + m264)), .second, .val (.int (2 : Int32)), .val (.int (2 : Int32))] [(.int (2 : Int32)), (.ref r0)]))
     refine own_ldI Y260 hx hZ f258 (i := 2) (by decide) (by decide) (Nat.le_of_ble_eq_true rfl) (v := (.int t2)) rfl rfl rfl (hb hby own_d1_58) ?_
     show own_Ends _ _ _ _ (T259.setTop (mkF m 59 #[.val (.ref r0), .val (.int (2 : Int32)), .val (.ref b232), .val (.long (((0 : Int64) + m250) + m264)), .second, .val (.int (2 : Int32)), .val (.int (2 : Int32))] [(.int t2)]))
     refine own_st (fun t_ => XS.ifYes (own_here Y260) hx rfl (pc0 := 59) (pc' := 93) rfl (hb hby own_d1_59) rfl (XT.i0_le_t c24_140) (by decide) (by decide)) ?_
     show own_Ends _ _ _ _ (T259.setTop (mkF m 93 #[.val (.ref r0), .val (.int (2 : Int32)), .val (.ref b232), .val (.long (((0 : Int64) + m250) + m264)), .second, .val (.int (2 : Int32)), .val (.int (2 : Int32))] []))
     refine own_st (fun t_ => XS.iinc (own_here Y260) hx rfl (hb hby own_d1_93) rfl (l' := #[.val (.ref r0), .val (.int (2 : Int32)), .val (.ref b232), .val (.long (((0 : Int64) + m250) + m264)), .second, .val (.int (2 : Int32)), .val (.int (3 : Int32))]) rfl) ?_
     show own_Ends _ _ _ _ (T259.setTop (mkF m 96 #[.val (.ref r0), .val (.int (2 : Int32)), .val (.ref b232), .val (.long (((0 : Int64) + m250) + m264)), .second, .val (.int (2 : Int32)), .val (.int (3 : Int32))] []))
     refine own_st (fun t_ => XS.goto (own_here Y260) hx rfl (pc0 := 96) (pc' := 48) rfl (hb hby own_d1_96) (by decide) (by decide)) ?_
     show own_Ends _ _ _ _ (T259.setTop (mkF m 48 #[.val (.ref r0), .val (.int (2 : Int32)), .val (.ref b232), .val (.long (((0 : Int64) + m250) + m264)), .second, .val (.int (2 : Int32)), .val (.int (3 : Int32))] []))
     refine own_st (fun t_ => XS.iload (own_here Y260) hx rfl (hb hby own_d1_48) rfl) ?_
     show own_Ends _ _ _ _ (T259.setTop (mkF m 50 #[.val (.ref r0), .val (.int (2 : Int32)), .val (.ref b232), .val (.long (((0 : Int64) + m250) + m264)), .second, .val (.int (2 : Int32)), .val (.int (3 : Int32))] [(.int (3 : Int32))]))
     refine own_st (fun t_ => XS.aloadN (own_here Y260) hx rfl (hb hby own_d1_50) rfl rfl) ?_
     show own_Ends _ _ _ _ (T259.setTop (mkF m 51 #[.val (.ref r0), .val (.int (2 : Int32)), .val (.ref b232), .val (.long (((0 : Int64) + m250) + m264)), .second, .val (.int (2 : Int32)), .val (.int (3 : Int32))] [(.ref r0), (.int (3 : Int32))]))
     refine own_len Y260 hx hZ f258 (z := (3 : Int32)) rfl rfl rfl (hb hby own_d1_51) ?_
     show own_Ends _ _ _ _ (T259.setTop (mkF m 52 #[.val (.ref r0), .val (.int (2 : Int32)), .val (.ref b232), .val (.long (((0 : Int64) + m250) + m264)), .second, .val (.int (2 : Int32)), .val (.int (3 : Int32))] [(.int (3 : Int32)), (.int (3 : Int32))]))
     refine own_st (fun t_ => XS.icmpYes (own_here Y260) hx rfl (pc0 := 52) (pc' := 99) rfl (hb hby own_d1_52) rfl (XT.ii_ge_t (by decide)) (by decide) (by decide)) ?_
     show own_Ends _ _ _ _ (T259.setTop (mkF m 99 #[.val (.ref r0), .val (.int (2 : Int32)), .val (.ref b232), .val (.long (((0 : Int64) + m250) + m264)), .second, .val (.int (2 : Int32)), .val (.int (3 : Int32))] []))
     refine own_new Y260 hx hZ hown (hw _ (List.mem_of_getElem? (i := 14) rfl)) (hw _ (List.mem_of_getElem? (i := 15) rfl)) (hw _ (List.mem_of_getElem? (i := 4) rfl)) rfl (hb hby own_d1_99) (by decide) (by decide) (fun T265 h267 b271 eb272 Y266 E268 X269 D270 => ?_)
     have ne273 : r0 ≠ b271 := Nat.ne_of_lt (by rw [eb272]; exact f258.lt)
     have ne274 : b232 ≠ b271 := Nat.ne_of_lt (by rw [eb272]; exact F257.lt)
     have z276 : n0 ≤ h229.size := Nat.le_trans Z0 E230.1
     have z277 : n0 ≤ h239.size := Nat.le_trans z276 K242.1
     have z278 : n0 ≤ h253.size := Nat.le_trans z277 K256.1
     have g275 : n0 ≤ b271 := by rw [eb272]; exact z278
     have F279 : Fld Z h267 b271 "com/example/poset/poset/core/Marking" "size" "I" (.int (0 : Int32)) := D270 _ _ _ .int (Or.inr (hw _ (List.mem_of_getElem? (i := 23) rfl))) (by decide)
     have F280 : Fld Z h267 b271 "com/example/poset/poset/core/Marking" "entries" "[J" .null := D270 _ _ _ (.array .long) (Or.inr (hw _ (List.mem_of_getElem? (i := 25) rfl))) (by decide)
     have F281 : Fld Z h267 b271 "com/example/poset/poset/core/Marking" "wide" "Z" (.int (0 : Int32)) := D270 _ _ _ .boolean (Or.inr (hw _ (List.mem_of_getElem? (i := 27) rfl))) (by decide)
     have F282 : Fld Z h267 b271 "com/example/poset/poset/core/Marking" "mixed" "J" (.long (0 : Int64)) := D270 _ _ _ .long (Or.inr (hw _ (List.mem_of_getElem? (i := 29) rfl))) (by decide)
     show own_Ends _ _ _ _ (T265.setTop (mkF m 102 #[.val (.ref r0), .val (.int (2 : Int32)), .val (.ref b232), .val (.long (((0 : Int64) + m250) + m264)), .second, .val (.int (2 : Int32)), .val (.int (3 : Int32))] [(.ref b271)]))
     refine own_st (fun t_ => XS.dup (own_here Y266) hx rfl (hb hby own_d1_102) rfl rfl) ?_
     show own_Ends _ _ _ _ (T265.setTop (mkF m 103 #[.val (.ref r0), .val (.int (2 : Int32)), .val (.ref b232), .val (.long (((0 : Int64) + m250) + m264)), .second, .val (.int (2 : Int32)), .val (.int (3 : Int32))] [(.ref b271), (.ref b271)]))
     refine own_st (fun t_ => XS.aloadN (own_here Y266) hx rfl (hb hby own_d1_103) rfl rfl) ?_
     show own_Ends _ _ _ _ (T265.setTop (mkF m 104 #[.val (.ref r0), .val (.int (2 : Int32)), .val (.ref b232), .val (.long (((0 : Int64) + m250) + m264)), .second, .val (.int (2 : Int32)), .val (.int (3 : Int32))] [(.ref r0), (.ref b271), (.ref b271)]))
     have f283 : own_A Z h267 r0 .int [(.int t0), (.int t1), (.int t2)] := f258.ext E268
     refine own_len Y266 hx hZ f283 (z := (3 : Int32)) rfl rfl rfl (hb hby own_d1_104) ?_
     show own_Ends _ _ _ _ (T265.setTop (mkF m 105 #[.val (.ref r0), .val (.int (2 : Int32)), .val (.ref b232), .val (.long (((0 : Int64) + m250) + m264)), .second, .val (.int (2 : Int32)), .val (.int (3 : Int32))] [(.int (3 : Int32)), (.ref b271), (.ref b271)]))
     refine own_st (fun t_ => XS.aloadN (own_here Y266) hx rfl (hb hby own_d1_105) rfl rfl) ?_
     show own_Ends _ _ _ _ (T265.setTop (mkF m 106 #[.val (.ref r0), .val (.int (2 : Int32)), .val (.ref b232), .val (.long (((0 : Int64) + m250) + m264)), .second, .val (.int (2 : Int32)), .val (.int (3 : Int32))] [(.ref b232), (.int (3 : Int32)), (.ref b271), (.ref b271)]))
     refine own_st (fun t_ => XS.iconst (own_here Y266) hx rfl (hb hby own_d1_106) ) ?_
     show own_Ends _ _ _ _ (T265.setTop (mkF m 107 #[.val (.ref r0), .val (.int (2 : Int32)), .val (.ref b232), .val (.long (((0 : Int64) + m250) + m264)), .second, .val (.int (2 : Int32)), .val (.int (3 : Int32))] [(.int (0 : Int32)), (.ref b232), (.int (3 : Int32)), (.ref b271), (.ref b271)]))
     refine own_st (fun t_ => XS.lloadN (own_here Y266) hx rfl (hb hby own_d1_107) rfl) ?_
     show own_Ends _ _ _ _ (T265.setTop (mkF m 108 #[.val (.ref r0), .val (.int (2 : Int32)), .val (.ref b232), .val (.long (((0 : Int64) + m250) + m264)), .second, .val (.int (2 : Int32)), .val (.int (3 : Int32))] [(.long (((0 : Int64) + m250) + m264)), (.int (0 : Int32)), (.ref b232), (.int (3 : Int32)), (.ref b271), (.ref b271)]))
     refine own_callN Y266 hx hZ (y := (⟨"com/example/poset/poset/core/Marking", "<init>", "(I[JZJ)V"⟩ : MethodName)) rfl hown (hw _ (List.mem_of_getElem? (i := 16) rfl)) (hw _ (List.mem_of_getElem? (i := 17) rfl)) (hw _ (List.mem_of_getElem? (i := 4) rfl)) (hw _ (List.mem_of_getElem? (i := 18) rfl)) (by decide) (a := b271) (argsL := [(.int (3 : Int32)), (.ref b232), (.int (0 : Int32)), (.long (((0 : Int64) + m250) + m264))]) (rest := [(.ref b271)]) (own_rm4 l Z a0 hw [] b271 (3 : Int32) b232 (((0 : Int64) + m250) + m264)  h267 n0  X269 F279 F280 F281 F282 g275) (W := 1) (by decide) (by decide) (by decide) (by decide) rfl (by rw [hml]; rfl) (lenOf own_pd7 rfl) rfl (by show 2 * 0 + _ ≤ _; exact Nat.le_of_eq rfl) (hb hby own_d1_108) (fun T284 h286 v287 Y285 q288 => ?_)
     obtain ⟨rfl, K289, F290, F291, F292⟩ := q288
     show own_Ends _ _ _ _ (T284.setTop (mkF m 111 #[.val (.ref r0), .val (.int (2 : Int32)), .val (.ref b232), .val (.long (((0 : Int64) + m250) + m264)), .second, .val (.int (2 : Int32)), .val (.int (3 : Int32))] [(.ref b271)]))
     have z293 : n0 ≤ h267.size := Nat.le_trans z278 E268.1
     have z294 : n0 ≤ h286.size := Nat.le_trans z293 K289.1
     have f295 : own_A Z h267 b232 .long [(.long (own_E (0 : Int32) t0)), (.long (own_E (1 : Int32) t1))] := F257.ext E268
     have f296 : own_A Z h286 b232 .long [(.long (own_E (0 : Int32) t0)), (.long (own_E (1 : Int32) t1))] := f295.keep K289 (ninS ne274 nin0)
     have hes : own_es t0 t1 t2 = [(own_E (0 : Int32) t0), (own_E (1 : Int32) t1)] := by simp [own_es, c24_138, c24_139, c24_140]
     have f297 : Exa Z h286 b271 "com/example/poset/poset/core/Marking" := X269.keep K289
     refine own_retA Y285 hx hlk hret rfl rfl rfl (hb hby own_d1_111) (by decide) (by decide) ?_
     exact ⟨_, _, rfl, z294, f297, F290, F291, F292, by rw [hes]; exact f296⟩
   ·
    refine own_st (fun t_ => XS.ifYes (own_here Y0) hx rfl (pc0 := 24) (pc' := 30) rfl (hb hby own_d1_24) rfl (XT.i0_le_t c24_139) (by decide) (by decide)) ?_
    show own_Ends _ _ _ _ (T0.setTop (mkF m 30 #[.val (.ref r0), .val (.int (1 : Int32)), .val (.ref r0), .val (.int (3 : Int32)), .val (.int (1 : Int32)), .val (.int t1), .unset] []))
    refine own_st (fun t_ => XS.iinc (own_here Y0) hx rfl (hb hby own_d1_30) rfl (l' := #[.val (.ref r0), .val (.int (1 : Int32)), .val (.ref r0), .val (.int (3 : Int32)), .val (.int (2 : Int32)), .val (.int t1), .unset]) rfl) ?_
    show own_Ends _ _ _ _ (T0.setTop (mkF m 33 #[.val (.ref r0), .val (.int (1 : Int32)), .val (.ref r0), .val (.int (3 : Int32)), .val (.int (2 : Int32)), .val (.int t1), .unset] []))
    refine own_st (fun t_ => XS.goto (own_here Y0) hx rfl (pc0 := 33) (pc' := 10) rfl (hb hby own_d1_33) (by decide) (by decide)) ?_
    show own_Ends _ _ _ _ (T0.setTop (mkF m 10 #[.val (.ref r0), .val (.int (1 : Int32)), .val (.ref r0), .val (.int (3 : Int32)), .val (.int (2 : Int32)), .val (.int t1), .unset] []))
    refine own_st (fun t_ => XS.iload (own_here Y0) hx rfl (hb hby own_d1_10) rfl) ?_
    show own_Ends _ _ _ _ (T0.setTop (mkF m 12 #[.val (.ref r0), .val (.int (1 : Int32)), .val (.ref r0), .val (.int (3 : Int32)), .val (.int (2 : Int32)), .val (.int t1), .unset] [(.int (2 : Int32))]))
    refine own_st (fun t_ => XS.iloadN (own_here Y0) hx rfl (hb hby own_d1_12) rfl) ?_
    show own_Ends _ _ _ _ (T0.setTop (mkF m 13 #[.val (.ref r0), .val (.int (1 : Int32)), .val (.ref r0), .val (.int (3 : Int32)), .val (.int (2 : Int32)), .val (.int t1), .unset] [(.int (3 : Int32)), (.int (2 : Int32))]))
    refine own_st (fun t_ => XS.icmpNo (own_here Y0) hx rfl (hb hby own_d1_13) rfl (XT.ii_ge_f (by decide))) ?_
    show own_Ends _ _ _ _ (T0.setTop (mkF m 16 #[.val (.ref r0), .val (.int (1 : Int32)), .val (.ref r0), .val (.int (3 : Int32)), .val (.int (2 : Int32)), .val (.int t1), .unset] []))
    refine own_st (fun t_ => XS.aloadN (own_here Y0) hx rfl (hb hby own_d1_16) rfl rfl) ?_
    show own_Ends _ _ _ _ (T0.setTop (mkF m 17 #[.val (.ref r0), .val (.int (1 : Int32)), .val (.ref r0), .val (.int (3 : Int32)), .val (.int (2 : Int32)), .val (.int t1), .unset] [(.ref r0)]))
    refine own_st (fun t_ => XS.iload (own_here Y0) hx rfl (hb hby own_d1_17) rfl) ?_
    show own_Ends _ _ _ _ (T0.setTop (mkF m 19 #[.val (.ref r0), .val (.int (1 : Int32)), .val (.ref r0), .val (.int (3 : Int32)), .val (.int (2 : Int32)), .val (.int t1), .unset] [(.int (2 : Int32)), (.ref r0)]))
    refine own_ldI Y0 hx hZ A (i := 2) (by decide) (by decide) (Nat.le_of_ble_eq_true rfl) (v := (.int t2)) rfl rfl rfl (hb hby own_d1_19) ?_
    show own_Ends _ _ _ _ (T0.setTop (mkF m 20 #[.val (.ref r0), .val (.int (1 : Int32)), .val (.ref r0), .val (.int (3 : Int32)), .val (.int (2 : Int32)), .val (.int t1), .unset] [(.int t2)]))
    refine own_st (fun t_ => XS.istore (own_here Y0) hx rfl (hb hby own_d1_20) rfl (l' := #[.val (.ref r0), .val (.int (1 : Int32)), .val (.ref r0), .val (.int (3 : Int32)), .val (.int (2 : Int32)), .val (.int t2), .unset]) rfl) ?_
    show own_Ends _ _ _ _ (T0.setTop (mkF m 22 #[.val (.ref r0), .val (.int (1 : Int32)), .val (.ref r0), .val (.int (3 : Int32)), .val (.int (2 : Int32)), .val (.int t2), .unset] []))
    refine own_st (fun t_ => XS.iload (own_here Y0) hx rfl (hb hby own_d1_22) rfl) ?_
    show own_Ends _ _ _ _ (T0.setTop (mkF m 24 #[.val (.ref r0), .val (.int (1 : Int32)), .val (.ref r0), .val (.int (3 : Int32)), .val (.int (2 : Int32)), .val (.int t2), .unset] [(.int t2)]))
    by_cases c24_298 : (0 : Int32) < t2
    ·
     refine own_st (fun t_ => XS.ifNo (own_here Y0) hx rfl (hb hby own_d1_24) rfl (XT.i0_le_f c24_298)) ?_
     show own_Ends _ _ _ _ (T0.setTop (mkF m 27 #[.val (.ref r0), .val (.int (1 : Int32)), .val (.ref r0), .val (.int (3 : Int32)), .val (.int (2 : Int32)), .val (.int t2), .unset] []))
     refine own_st (fun t_ => XS.iinc (own_here Y0) hx rfl (hb hby own_d1_27) rfl (l' := #[.val (.ref r0), .val (.int (2 : Int32)), .val (.ref r0), .val (.int (3 : Int32)), .val (.int (2 : Int32)), .val (.int t2), .unset]) rfl) ?_
     show own_Ends _ _ _ _ (T0.setTop (mkF m 30 #[.val (.ref r0), .val (.int (2 : Int32)), .val (.ref r0), .val (.int (3 : Int32)), .val (.int (2 : Int32)), .val (.int t2), .unset] []))
     refine own_st (fun t_ => XS.iinc (own_here Y0) hx rfl (hb hby own_d1_30) rfl (l' := #[.val (.ref r0), .val (.int (2 : Int32)), .val (.ref r0), .val (.int (3 : Int32)), .val (.int (3 : Int32)), .val (.int t2), .unset]) rfl) ?_
     show own_Ends _ _ _ _ (T0.setTop (mkF m 33 #[.val (.ref r0), .val (.int (2 : Int32)), .val (.ref r0), .val (.int (3 : Int32)), .val (.int (3 : Int32)), .val (.int t2), .unset] []))
     refine own_st (fun t_ => XS.goto (own_here Y0) hx rfl (pc0 := 33) (pc' := 10) rfl (hb hby own_d1_33) (by decide) (by decide)) ?_
     show own_Ends _ _ _ _ (T0.setTop (mkF m 10 #[.val (.ref r0), .val (.int (2 : Int32)), .val (.ref r0), .val (.int (3 : Int32)), .val (.int (3 : Int32)), .val (.int t2), .unset] []))
     refine own_st (fun t_ => XS.iload (own_here Y0) hx rfl (hb hby own_d1_10) rfl) ?_
     show own_Ends _ _ _ _ (T0.setTop (mkF m 12 #[.val (.ref r0), .val (.int (2 : Int32)), .val (.ref r0), .val (.int (3 : Int32)), .val (.int (3 : Int32)), .val (.int t2), .unset] [(.int (3 : Int32))]))
     refine own_st (fun t_ => XS.iloadN (own_here Y0) hx rfl (hb hby own_d1_12) rfl) ?_
     show own_Ends _ _ _ _ (T0.setTop (mkF m 13 #[.val (.ref r0), .val (.int (2 : Int32)), .val (.ref r0), .val (.int (3 : Int32)), .val (.int (3 : Int32)), .val (.int t2), .unset] [(.int (3 : Int32)), (.int (3 : Int32))]))
     refine own_st (fun t_ => XS.icmpYes (own_here Y0) hx rfl (pc0 := 13) (pc' := 36) rfl (hb hby own_d1_13) rfl (XT.ii_ge_t (by decide)) (by decide) (by decide)) ?_
     show own_Ends _ _ _ _ (T0.setTop (mkF m 36 #[.val (.ref r0), .val (.int (2 : Int32)), .val (.ref r0), .val (.int (3 : Int32)), .val (.int (3 : Int32)), .val (.int t2), .unset] []))
     refine own_st (fun t_ => XS.iloadN (own_here Y0) hx rfl (hb hby own_d1_36) rfl) ?_
     show own_Ends _ _ _ _ (T0.setTop (mkF m 37 #[.val (.ref r0), .val (.int (2 : Int32)), .val (.ref r0), .val (.int (3 : Int32)), .val (.int (3 : Int32)), .val (.int t2), .unset] [(.int (2 : Int32))]))
     refine own_newP Y0 hx hZ (hw _ (List.mem_of_getElem? (i := 6) rfl)) rfl (hb hby own_d1_37) rfl (by decide) (nz := 2) (cap := 2) (by decide) (by decide) (by decide) (by decide) (by decide) (ty := .long) rfl (fun T299 h301 b304 eb305 Y300 E302 A303 => ?_)
     have ne306 : r0 ≠ b304 := Nat.ne_of_lt (by rw [eb305]; exact A.lt)
     have g307 : n0 ≤ b304 := by rw [eb305]; exact Z0
     replace A303 : own_A Z h301 b304 .long [(.long (0 : Int64)), (.long (0 : Int64))] := A303
     show own_Ends _ _ _ _ (T299.setTop (mkF m 39 #[.val (.ref r0), .val (.int (2 : Int32)), .val (.ref r0), .val (.int (3 : Int32)), .val (.int (3 : Int32)), .val (.int t2), .unset] [(.ref b304)]))
     refine own_st (fun t_ => XS.astoreN (own_here Y300) hx rfl (hb hby own_d1_39) rfl rfl (l' := #[.val (.ref r0), .val (.int (2 : Int32)), .val (.ref b304), .val (.int (3 : Int32)), .val (.int (3 : Int32)), .val (.int t2), .unset]) rfl) ?_
     show own_Ends _ _ _ _ (T299.setTop (mkF m 40 #[.val (.ref r0), .val (.int (2 : Int32)), .val (.ref b304), .val (.int (3 : Int32)), .val (.int (3 : Int32)), .val (.int t2), .unset] []))
     refine own_st (fun t_ => XS.lconst (own_here Y300) hx rfl (hb hby own_d1_40) ) ?_
     show own_Ends _ _ _ _ (T299.setTop (mkF m 41 #[.val (.ref r0), .val (.int (2 : Int32)), .val (.ref b304), .val (.int (3 : Int32)), .val (.int (3 : Int32)), .val (.int t2), .unset] [(.long (0 : Int64))]))
     refine own_st (fun t_ => XS.lstoreN (own_here Y300) hx rfl (hb hby own_d1_41) rfl (l' := #[.val (.ref r0), .val (.int (2 : Int32)), .val (.ref b304), .val (.long (0 : Int64)), .second, .val (.int t2), .unset]) rfl) ?_
     show own_Ends _ _ _ _ (T299.setTop (mkF m 42 #[.val (.ref r0), .val (.int (2 : Int32)), .val (.ref b304), .val (.long (0 : Int64)), .second, .val (.int t2), .unset] []))
     refine own_st (fun t_ => XS.iconst (own_here Y300) hx rfl (hb hby own_d1_42) ) ?_
     show own_Ends _ _ _ _ (T299.setTop (mkF m 43 #[.val (.ref r0), .val (.int (2 : Int32)), .val (.ref b304), .val (.long (0 : Int64)), .second, .val (.int t2), .unset] [(.int (0 : Int32))]))
     refine own_st (fun t_ => XS.istore (own_here Y300) hx rfl (hb hby own_d1_43) rfl (l' := #[.val (.ref r0), .val (.int (2 : Int32)), .val (.ref b304), .val (.long (0 : Int64)), .second, .val (.int (0 : Int32)), .unset]) rfl) ?_
     show own_Ends _ _ _ _ (T299.setTop (mkF m 45 #[.val (.ref r0), .val (.int (2 : Int32)), .val (.ref b304), .val (.long (0 : Int64)), .second, .val (.int (0 : Int32)), .unset] []))
     refine own_st (fun t_ => XS.iconst (own_here Y300) hx rfl (hb hby own_d1_45) ) ?_
     show own_Ends _ _ _ _ (T299.setTop (mkF m 46 #[.val (.ref r0), .val (.int (2 : Int32)), .val (.ref b304), .val (.long (0 : Int64)), .second, .val (.int (0 : Int32)), .unset] [(.int (0 : Int32))]))
     refine own_st (fun t_ => XS.istore (own_here Y300) hx rfl (hb hby own_d1_46) rfl (l' := #[.val (.ref r0), .val (.int (2 : Int32)), .val (.ref b304), .val (.long (0 : Int64)), .second, .val (.int (0 : Int32)), .val (.int (0 : Int32))]) rfl) ?_
     show own_Ends _ _ _ _ (T299.setTop (mkF m 48 #[.val (.ref r0), .val (.int (2 : Int32)), .val (.ref b304), .val (.long (0 : Int64)), .second, .val (.int (0 : Int32)), .val (.int (0 : Int32))] []))
     refine own_st (fun t_ => XS.iload (own_here Y300) hx rfl (hb hby own_d1_48) rfl) ?_
     show own_Ends _ _ _ _ (T299.setTop (mkF m 50 #[.val (.ref r0), .val (.int (2 : Int32)), .val (.ref b304), .val (.long (0 : Int64)), .second, .val (.int (0 : Int32)), .val (.int (0 : Int32))] [(.int (0 : Int32))]))
     refine own_st (fun t_ => XS.aloadN (own_here Y300) hx rfl (hb hby own_d1_50) rfl rfl) ?_
     show own_Ends _ _ _ _ (T299.setTop (mkF m 51 #[.val (.ref r0), .val (.int (2 : Int32)), .val (.ref b304), .val (.long (0 : Int64)), .second, .val (.int (0 : Int32)), .val (.int (0 : Int32))] [(.ref r0), (.int (0 : Int32))]))
     have f308 : own_A Z h301 r0 .int [(.int t0), (.int t1), (.int t2)] := A.ext E302
     refine own_len Y300 hx hZ f308 (z := (3 : Int32)) rfl rfl rfl (hb hby own_d1_51) ?_
     show own_Ends _ _ _ _ (T299.setTop (mkF m 52 #[.val (.ref r0), .val (.int (2 : Int32)), .val (.ref b304), .val (.long (0 : Int64)), .second, .val (.int (0 : Int32)), .val (.int (0 : Int32))] [(.int (3 : Int32)), (.int (0 : Int32))]))
     refine own_st (fun t_ => XS.icmpNo (own_here Y300) hx rfl (hb hby own_d1_52) rfl (XT.ii_ge_f (by decide))) ?_
     show own_Ends _ _ _ _ (T299.setTop (mkF m 55 #[.val (.ref r0), .val (.int (2 : Int32)), .val (.ref b304), .val (.long (0 : Int64)), .second, .val (.int (0 : Int32)), .val (.int (0 : Int32))] []))
     refine own_st (fun t_ => XS.aloadN (own_here Y300) hx rfl (hb hby own_d1_55) rfl rfl) ?_
     show own_Ends _ _ _ _ (T299.setTop (mkF m 56 #[.val (.ref r0), .val (.int (2 : Int32)), .val (.ref b304), .val (.long (0 : Int64)), .second, .val (.int (0 : Int32)), .val (.int (0 : Int32))] [(.ref r0)]))
     refine own_st (fun t_ => XS.iload (own_here Y300) hx rfl (hb hby own_d1_56) rfl) ?_
     show own_Ends _ _ _ _ (T299.setTop (mkF m 58 #[.val (.ref r0), .val (.int (2 : Int32)), .val (.ref b304), .val (.long (0 : Int64)), .second, .val (.int (0 : Int32)), .val (.int (0 : Int32))] [(.int (0 : Int32)), (.ref r0)]))
     refine own_ldI Y300 hx hZ f308 (i := 0) (by decide) (by decide) (Nat.le_of_ble_eq_true rfl) (v := (.int t0)) rfl rfl rfl (hb hby own_d1_58) ?_
     show own_Ends _ _ _ _ (T299.setTop (mkF m 59 #[.val (.ref r0), .val (.int (2 : Int32)), .val (.ref b304), .val (.long (0 : Int64)), .second, .val (.int (0 : Int32)), .val (.int (0 : Int32))] [(.int t0)]))
     refine own_st (fun t_ => XS.ifNo (own_here Y300) hx rfl (hb hby own_d1_59) rfl (XT.i0_le_f c24_138)) ?_
     show own_Ends _ _ _ _ (T299.setTop (mkF m 62 #[.val (.ref r0), .val (.int (2 : Int32)), .val (.ref b304), .val (.long (0 : Int64)), .second, .val (.int (0 : Int32)), .val (.int (0 : Int32))] []))
     refine own_st (fun t_ => XS.aloadN (own_here Y300) hx rfl (hb hby own_d1_62) rfl rfl) ?_
     show own_Ends _ _ _ _ (T299.setTop (mkF m 63 #[.val (.ref r0), .val (.int (2 : Int32)), .val (.ref b304), .val (.long (0 : Int64)), .second, .val (.int (0 : Int32)), .val (.int (0 : Int32))] [(.ref b304)]))
     refine own_st (fun t_ => XS.iconst (own_here Y300) hx rfl (hb hby own_d1_63) ) ?_
     show own_Ends _ _ _ _ (T299.setTop (mkF m 64 #[.val (.ref r0), .val (.int (2 : Int32)), .val (.ref b304), .val (.long (0 : Int64)), .second, .val (.int (0 : Int32)), .val (.int (0 : Int32))] [(.int (0 : Int32)), (.ref b304)]))
     refine own_st (fun t_ => XS.iload (own_here Y300) hx rfl (hb hby own_d1_64) rfl) ?_
     show own_Ends _ _ _ _ (T299.setTop (mkF m 66 #[.val (.ref r0), .val (.int (2 : Int32)), .val (.ref b304), .val (.long (0 : Int64)), .second, .val (.int (0 : Int32)), .val (.int (0 : Int32))] [(.int (0 : Int32)), (.int (0 : Int32)), (.ref b304)]))
     refine own_st (fun t_ => XS.iinc (own_here Y300) hx rfl (hb hby own_d1_66) rfl (l' := #[.val (.ref r0), .val (.int (2 : Int32)), .val (.ref b304), .val (.long (0 : Int64)), .second, .val (.int (1 : Int32)), .val (.int (0 : Int32))]) rfl) ?_
     show own_Ends _ _ _ _ (T299.setTop (mkF m 69 #[.val (.ref r0), .val (.int (2 : Int32)), .val (.ref b304), .val (.long (0 : Int64)), .second, .val (.int (1 : Int32)), .val (.int (0 : Int32))] [(.int (0 : Int32)), (.int (0 : Int32)), (.ref b304)]))
     refine own_st (fun t_ => XS.iload (own_here Y300) hx rfl (hb hby own_d1_69) rfl) ?_
     show own_Ends _ _ _ _ (T299.setTop (mkF m 71 #[.val (.ref r0), .val (.int (2 : Int32)), .val (.ref b304), .val (.long (0 : Int64)), .second, .val (.int (1 : Int32)), .val (.int (0 : Int32))] [(.int (0 : Int32)), (.int (0 : Int32)), (.int (0 : Int32)), (.ref b304)]))
     refine own_st (fun t_ => XS.aloadN (own_here Y300) hx rfl (hb hby own_d1_71) rfl rfl) ?_
     show own_Ends _ _ _ _ (T299.setTop (mkF m 72 #[.val (.ref r0), .val (.int (2 : Int32)), .val (.ref b304), .val (.long (0 : Int64)), .second, .val (.int (1 : Int32)), .val (.int (0 : Int32))] [(.ref r0), (.int (0 : Int32)), (.int (0 : Int32)), (.int (0 : Int32)), (.ref b304)]))
     refine own_st (fun t_ => XS.iload (own_here Y300) hx rfl (hb hby own_d1_72) rfl) ?_
     show own_Ends _ _ _ _ (T299.setTop (mkF m 74 #[.val (.ref r0), .val (.int (2 : Int32)), .val (.ref b304), .val (.long (0 : Int64)), .second, .val (.int (1 : Int32)), .val (.int (0 : Int32))] [(.int (0 : Int32)), (.ref r0), (.int (0 : Int32)), (.int (0 : Int32)), (.int (0 : Int32)), (.ref b304)]))
     refine own_ldI Y300 hx hZ f308 (i := 0) (by decide) (by decide) (Nat.le_of_ble_eq_true rfl) (v := (.int t0)) rfl rfl rfl (hb hby own_d1_74) ?_
     show own_Ends _ _ _ _ (T299.setTop (mkF m 75 #[.val (.ref r0), .val (.int (2 : Int32)), .val (.ref b304), .val (.long (0 : Int64)), .second, .val (.int (1 : Int32)), .val (.int (0 : Int32))] [(.int t0), (.int (0 : Int32)), (.int (0 : Int32)), (.int (0 : Int32)), (.ref b304)]))
     refine own_st (fun t_ => XS.i2l (own_here Y300) hx rfl (hb hby own_d1_75) rfl) ?_
     show own_Ends _ _ _ _ (T299.setTop (mkF m 76 #[.val (.ref r0), .val (.int (2 : Int32)), .val (.ref b304), .val (.long (0 : Int64)), .second, .val (.int (1 : Int32)), .val (.int (0 : Int32))] [(.long (t0.toInt64)), (.int (0 : Int32)), (.int (0 : Int32)), (.int (0 : Int32)), (.ref b304)]))
     refine own_callS Y300 hx hZ (y := (⟨"com/example/poset/poset/core/Marking", "put", "([JZIIJ)V"⟩ : MethodName)) hown (hw _ (List.mem_of_getElem? (i := 7) rfl)) (hw _ (List.mem_of_getElem? (i := 8) rfl)) (hw _ (List.mem_of_getElem? (i := 4) rfl)) (hw _ (List.mem_of_getElem? (i := 9) rfl)) (by decide) (argsL := [(.ref b304), (.int (0 : Int32)), (.int (0 : Int32)), (.int (0 : Int32)), (.long (t0.toInt64))]) (rest := []) (own_rm2_2_0 l Z a0 hw [] b304 (0 : Int32) (t0.toInt64) (0 : Int64) (0 : Int64) t0 h301 n0  A303 g307 rfl) (W := 0) (by decide) (by decide) (by decide) (by decide) rfl (by rw [hml]; rfl) (lenOf own_pd5 rfl) rfl (by show 2 * 0 + _ ≤ _; exact Nat.le_of_eq rfl) (hb hby own_d1_76) (fun T309 h311 v312 Y310 q313 => ?_)
     obtain ⟨rfl, K314, F315⟩ := q313
     show own_Ends _ _ _ _ (T309.setTop (mkF m 79 #[.val (.ref r0), .val (.int (2 : Int32)), .val (.ref b304), .val (.long (0 : Int64)), .second, .val (.int (1 : Int32)), .val (.int (0 : Int32))] []))
     refine own_st (fun t_ => XS.lloadN (own_here Y310) hx rfl (hb hby own_d1_79) rfl) ?_
     show own_Ends _ _ _ _ (T309.setTop (mkF m 80 #[.val (.ref r0), .val (.int (2 : Int32)), .val (.ref b304), .val (.long (0 : Int64)), .second, .val (.int (1 : Int32)), .val (.int (0 : Int32))] [(.long (0 : Int64))]))
     refine own_st (fun t_ => XS.iload (own_here Y310) hx rfl (hb hby own_d1_80) rfl) ?_
     show own_Ends _ _ _ _ (T309.setTop (mkF m 82 #[.val (.ref r0), .val (.int (2 : Int32)), .val (.ref b304), .val (.long (0 : Int64)), .second, .val (.int (1 : Int32)), .val (.int (0 : Int32))] [(.int (0 : Int32)), (.long (0 : Int64))]))
     refine own_st (fun t_ => XS.i2l (own_here Y310) hx rfl (hb hby own_d1_82) rfl) ?_
     show own_Ends _ _ _ _ (T309.setTop (mkF m 83 #[.val (.ref r0), .val (.int (2 : Int32)), .val (.ref b304), .val (.long (0 : Int64)), .second, .val (.int (1 : Int32)), .val (.int (0 : Int32))] [(.long (0 : Int64)), (.long (0 : Int64))]))
     refine own_st (fun t_ => XS.aloadN (own_here Y310) hx rfl (hb hby own_d1_83) rfl rfl) ?_
     show own_Ends _ _ _ _ (T309.setTop (mkF m 84 #[.val (.ref r0), .val (.int (2 : Int32)), .val (.ref b304), .val (.long (0 : Int64)), .second, .val (.int (1 : Int32)), .val (.int (0 : Int32))] [(.ref r0), (.long (0 : Int64)), (.long (0 : Int64))]))
     refine own_st (fun t_ => XS.iload (own_here Y310) hx rfl (hb hby own_d1_84) rfl) ?_
     show own_Ends _ _ _ _ (T309.setTop (mkF m 86 #[.val (.ref r0), .val (.int (2 : Int32)), .val (.ref b304), .val (.long (0 : Int64)), .second, .val (.int (1 : Int32)), .val (.int (0 : Int32))] [(.int (0 : Int32)), (.ref r0), (.long (0 : Int64)), (.long (0 : Int64))]))
     have f316 : own_A Z h311 r0 .int [(.int t0), (.int t1), (.int t2)] := f308.keep K314 (ninS ne306 nin0)
     refine own_ldI Y310 hx hZ f316 (i := 0) (by decide) (by decide) (Nat.le_of_ble_eq_true rfl) (v := (.int t0)) rfl rfl rfl (hb hby own_d1_86) ?_
     show own_Ends _ _ _ _ (T309.setTop (mkF m 87 #[.val (.ref r0), .val (.int (2 : Int32)), .val (.ref b304), .val (.long (0 : Int64)), .second, .val (.int (1 : Int32)), .val (.int (0 : Int32))] [(.int t0), (.long (0 : Int64)), (.long (0 : Int64))]))
     refine own_st (fun t_ => XS.i2l (own_here Y310) hx rfl (hb hby own_d1_87) rfl) ?_
     show own_Ends _ _ _ _ (T309.setTop (mkF m 88 #[.val (.ref r0), .val (.int (2 : Int32)), .val (.ref b304), .val (.long (0 : Int64)), .second, .val (.int (1 : Int32)), .val (.int (0 : Int32))] [(.long (t0.toInt64)), (.long (0 : Int64)), (.long (0 : Int64))]))
     refine own_callS Y310 hx hZ (y := (⟨"com/example/poset/poset/core/Marking", "mix", "(JJ)J"⟩ : MethodName)) hown (hw _ (List.mem_of_getElem? (i := 10) rfl)) (hw _ (List.mem_of_getElem? (i := 11) rfl)) (hw _ (List.mem_of_getElem? (i := 4) rfl)) (hw _ (List.mem_of_getElem? (i := 12) rfl)) (by decide) (argsL := [(.long (0 : Int64)), (.long (t0.toInt64))]) (rest := [(.long (0 : Int64))]) (own_rm3 l Z a0 hw [] (0 : Int64) (t0.toInt64)  h311 n0  ) (W := 2) (by decide) (by decide) (by decide) (by decide) rfl (by rw [hml]; rfl) (lenOf own_pd6 rfl) rfl (by show 2 * 0 + _ ≤ _; exact Nat.le_of_eq rfl) (hb hby own_d1_88) (fun T317 h319 v320 Y318 q321 => ?_)
     obtain ⟨m322, rfl, rfl⟩ := q321
     show own_Ends _ _ _ _ (T317.setTop (mkF m 91 #[.val (.ref r0), .val (.int (2 : Int32)), .val (.ref b304), .val (.long (0 : Int64)), .second, .val (.int (1 : Int32)), .val (.int (0 : Int32))] [(.long m322), (.long (0 : Int64))]))
     refine own_st (fun t_ => XS.ladd (own_here Y318) hx rfl (hb hby own_d1_91) rfl) ?_
     show own_Ends _ _ _ _ (T317.setTop (mkF m 92 #[.val (.ref r0), .val (.int (2 : Int32)), .val (.ref b304), .val (.long (0 : Int64)), .second, .val (.int (1 : Int32)), .val (.int (0 : Int32))] [(.long ((0 : Int64) + m322))]))
     refine own_st (fun t_ => XS.lstoreN (own_here Y318) hx rfl (hb hby own_d1_92) rfl (l' := #[.val (.ref r0), .val (.int (2 : Int32)), .val (.ref b304), .val (.long ((0 : Int64) + m322)), .second, .val (.int (1 : Int32)), .val (.int (0 : Int32))]) rfl) ?_
     show own_Ends _ _ _ _ (T317.setTop (mkF m 93 #[.val (.ref r0), .val (.int (2 : Int32)), .val (.ref b304), .val (.long ((0 : Int64) + m322)), .second, .val (.int (1 : Int32)), .val (.int (0 : Int32))] []))
     refine own_st (fun t_ => XS.iinc (own_here Y318) hx rfl (hb hby own_d1_93) rfl (l' := #[.val (.ref r0), .val (.int (2 : Int32)), .val (.ref b304), .val (.long ((0 : Int64) + m322)), .second, .val (.int (1 : Int32)), .val (.int (1 : Int32))]) rfl) ?_
     show own_Ends _ _ _ _ (T317.setTop (mkF m 96 #[.val (.ref r0), .val (.int (2 : Int32)), .val (.ref b304), .val (.long ((0 : Int64) + m322)), .second, .val (.int (1 : Int32)), .val (.int (1 : Int32))] []))
     refine own_st (fun t_ => XS.goto (own_here Y318) hx rfl (pc0 := 96) (pc' := 48) rfl (hb hby own_d1_96) (by decide) (by decide)) ?_
     show own_Ends _ _ _ _ (T317.setTop (mkF m 48 #[.val (.ref r0), .val (.int (2 : Int32)), .val (.ref b304), .val (.long ((0 : Int64) + m322)), .second, .val (.int (1 : Int32)), .val (.int (1 : Int32))] []))
     refine own_st (fun t_ => XS.iload (own_here Y318) hx rfl (hb hby own_d1_48) rfl) ?_
     show own_Ends _ _ _ _ (T317.setTop (mkF m 50 #[.val (.ref r0), .val (.int (2 : Int32)), .val (.ref b304), .val (.long ((0 : Int64) + m322)), .second, .val (.int (1 : Int32)), .val (.int (1 : Int32))] [(.int (1 : Int32))]))
     refine own_st (fun t_ => XS.aloadN (own_here Y318) hx rfl (hb hby own_d1_50) rfl rfl) ?_
     show own_Ends _ _ _ _ (T317.setTop (mkF m 51 #[.val (.ref r0), .val (.int (2 : Int32)), .val (.ref b304), .val (.long ((0 : Int64) + m322)), .second, .val (.int (1 : Int32)), .val (.int (1 : Int32))] [(.ref r0), (.int (1 : Int32))]))
     refine own_len Y318 hx hZ f316 (z := (3 : Int32)) rfl rfl rfl (hb hby own_d1_51) ?_
     show own_Ends _ _ _ _ (T317.setTop (mkF m 52 #[.val (.ref r0), .val (.int (2 : Int32)), .val (.ref b304), .val (.long ((0 : Int64) + m322)), .second, .val (.int (1 : Int32)), .val (.int (1 : Int32))] [(.int (3 : Int32)), (.int (1 : Int32))]))
     refine own_st (fun t_ => XS.icmpNo (own_here Y318) hx rfl (hb hby own_d1_52) rfl (XT.ii_ge_f (by decide))) ?_
     show own_Ends _ _ _ _ (T317.setTop (mkF m 55 #[.val (.ref r0), .val (.int (2 : Int32)), .val (.ref b304), .val (.long ((0 : Int64) + m322)), .second, .val (.int (1 : Int32)), .val (.int (1 : Int32))] []))
     refine own_st (fun t_ => XS.aloadN (own_here Y318) hx rfl (hb hby own_d1_55) rfl rfl) ?_
     show own_Ends _ _ _ _ (T317.setTop (mkF m 56 #[.val (.ref r0), .val (.int (2 : Int32)), .val (.ref b304), .val (.long ((0 : Int64) + m322)), .second, .val (.int (1 : Int32)), .val (.int (1 : Int32))] [(.ref r0)]))
     refine own_st (fun t_ => XS.iload (own_here Y318) hx rfl (hb hby own_d1_56) rfl) ?_
     show own_Ends _ _ _ _ (T317.setTop (mkF m 58 #[.val (.ref r0), .val (.int (2 : Int32)), .val (.ref b304), .val (.long ((0 : Int64) + m322)), .second, .val (.int (1 : Int32)), .val (.int (1 : Int32))] [(.int (1 : Int32)), (.ref r0)]))
     refine own_ldI Y318 hx hZ f316 (i := 1) (by decide) (by decide) (Nat.le_of_ble_eq_true rfl) (v := (.int t1)) rfl rfl rfl (hb hby own_d1_58) ?_
     show own_Ends _ _ _ _ (T317.setTop (mkF m 59 #[.val (.ref r0), .val (.int (2 : Int32)), .val (.ref b304), .val (.long ((0 : Int64) + m322)), .second, .val (.int (1 : Int32)), .val (.int (1 : Int32))] [(.int t1)]))
     refine own_st (fun t_ => XS.ifYes (own_here Y318) hx rfl (pc0 := 59) (pc' := 93) rfl (hb hby own_d1_59) rfl (XT.i0_le_t c24_139) (by decide) (by decide)) ?_
     show own_Ends _ _ _ _ (T317.setTop (mkF m 93 #[.val (.ref r0), .val (.int (2 : Int32)), .val (.ref b304), .val (.long ((0 : Int64) + m322)), .second, .val (.int (1 : Int32)), .val (.int (1 : Int32))] []))
     refine own_st (fun t_ => XS.iinc (own_here Y318) hx rfl (hb hby own_d1_93) rfl (l' := #[.val (.ref r0), .val (.int (2 : Int32)), .val (.ref b304), .val (.long ((0 : Int64) + m322)), .second, .val (.int (1 : Int32)), .val (.int (2 : Int32))]) rfl) ?_
     show own_Ends _ _ _ _ (T317.setTop (mkF m 96 #[.val (.ref r0), .val (.int (2 : Int32)), .val (.ref b304), .val (.long ((0 : Int64) + m322)), .second, .val (.int (1 : Int32)), .val (.int (2 : Int32))] []))
     refine own_st (fun t_ => XS.goto (own_here Y318) hx rfl (pc0 := 96) (pc' := 48) rfl (hb hby own_d1_96) (by decide) (by decide)) ?_
     show own_Ends _ _ _ _ (T317.setTop (mkF m 48 #[.val (.ref r0), .val (.int (2 : Int32)), .val (.ref b304), .val (.long ((0 : Int64) + m322)), .second, .val (.int (1 : Int32)), .val (.int (2 : Int32))] []))
     refine own_st (fun t_ => XS.iload (own_here Y318) hx rfl (hb hby own_d1_48) rfl) ?_
     show own_Ends _ _ _ _ (T317.setTop (mkF m 50 #[.val (.ref r0), .val (.int (2 : Int32)), .val (.ref b304), .val (.long ((0 : Int64) + m322)), .second, .val (.int (1 : Int32)), .val (.int (2 : Int32))] [(.int (2 : Int32))]))
     refine own_st (fun t_ => XS.aloadN (own_here Y318) hx rfl (hb hby own_d1_50) rfl rfl) ?_
     show own_Ends _ _ _ _ (T317.setTop (mkF m 51 #[.val (.ref r0), .val (.int (2 : Int32)), .val (.ref b304), .val (.long ((0 : Int64) + m322)), .second, .val (.int (1 : Int32)), .val (.int (2 : Int32))] [(.ref r0), (.int (2 : Int32))]))
     refine own_len Y318 hx hZ f316 (z := (3 : Int32)) rfl rfl rfl (hb hby own_d1_51) ?_
     show own_Ends _ _ _ _ (T317.setTop (mkF m 52 #[.val (.ref r0), .val (.int (2 : Int32)), .val (.ref b304), .val (.long ((0 : Int64) + m322)), .second, .val (.int (1 : Int32)), .val (.int (2 : Int32))] [(.int (3 : Int32)), (.int (2 : Int32))]))
     refine own_st (fun t_ => XS.icmpNo (own_here Y318) hx rfl (hb hby own_d1_52) rfl (XT.ii_ge_f (by decide))) ?_
     show own_Ends _ _ _ _ (T317.setTop (mkF m 55 #[.val (.ref r0), .val (.int (2 : Int32)), .val (.ref b304), .val (.long ((0 : Int64) + m322)), .second, .val (.int (1 : Int32)), .val (.int (2 : Int32))] []))
     refine own_st (fun t_ => XS.aloadN (own_here Y318) hx rfl (hb hby own_d1_55) rfl rfl) ?_
     show own_Ends _ _ _ _ (T317.setTop (mkF m 56 #[.val (.ref r0), .val (.int (2 : Int32)), .val (.ref b304), .val (.long ((0 : Int64) + m322)), .second, .val (.int (1 : Int32)), .val (.int (2 : Int32))] [(.ref r0)]))
     refine own_st (fun t_ => XS.iload (own_here Y318) hx rfl (hb hby own_d1_56) rfl) ?_
     show own_Ends _ _ _ _ (T317.setTop (mkF m 58 #[.val (.ref r0), .val (.int (2 : Int32)), .val (.ref b304), .val (.long ((0 : Int64) + m322)), .second, .val (.int (1 : Int32)), .val (.int (2 : Int32))] [(.int (2 : Int32)), (.ref r0)]))
     refine own_ldI Y318 hx hZ f316 (i := 2) (by decide) (by decide) (Nat.le_of_ble_eq_true rfl) (v := (.int t2)) rfl rfl rfl (hb hby own_d1_58) ?_
     show own_Ends _ _ _ _ (T317.setTop (mkF m 59 #[.val (.ref r0), .val (.int (2 : Int32)), .val (.ref b304), .val (.long ((0 : Int64) + m322)), .second, .val (.int (1 : Int32)), .val (.int (2 : Int32))] [(.int t2)]))
     refine own_st (fun t_ => XS.ifNo (own_here Y318) hx rfl (hb hby own_d1_59) rfl (XT.i0_le_f c24_298)) ?_
     show own_Ends _ _ _ _ (T317.setTop (mkF m 62 #[.val (.ref r0), .val (.int (2 : Int32)), .val (.ref b304), .val (.long ((0 : Int64) + m322)), .second, .val (.int (1 : Int32)), .val (.int (2 : Int32))] []))
     refine own_st (fun t_ => XS.aloadN (own_here Y318) hx rfl (hb hby own_d1_62) rfl rfl) ?_
     show own_Ends _ _ _ _ (T317.setTop (mkF m 63 #[.val (.ref r0), .val (.int (2 : Int32)), .val (.ref b304), .val (.long ((0 : Int64) + m322)), .second, .val (.int (1 : Int32)), .val (.int (2 : Int32))] [(.ref b304)]))
     refine own_st (fun t_ => XS.iconst (own_here Y318) hx rfl (hb hby own_d1_63) ) ?_
     show own_Ends _ _ _ _ (T317.setTop (mkF m 64 #[.val (.ref r0), .val (.int (2 : Int32)), .val (.ref b304), .val (.long ((0 : Int64) + m322)), .second, .val (.int (1 : Int32)), .val (.int (2 : Int32))] [(.int (0 : Int32)), (.ref b304)]))
     refine own_st (fun t_ => XS.iload (own_here Y318) hx rfl (hb hby own_d1_64) rfl) ?_
     show own_Ends _ _ _ _ (T317.setTop (mkF m 66 #[.val (.ref r0), .val (.int (2 : Int32)), .val (.ref b304), .val (.long ((0 : Int64) + m322)), .second, .val (.int (1 : Int32)), .val (.int (2 : Int32))] [(.int (1 : Int32)), (.int (0 : Int32)), (.ref b304)]))
     refine own_st (fun t_ => XS.iinc (own_here Y318) hx rfl (hb hby own_d1_66) rfl (l' := #[.val (.ref r0), .val (.int (2 : Int32)), .val (.ref b304), .val (.long ((0 : Int64) + m322)), .second, .val (.int (2 : Int32)), .val (.int (2 : Int32))]) rfl) ?_
     show own_Ends _ _ _ _ (T317.setTop (mkF m 69 #[.val (.ref r0), .val (.int (2 : Int32)), .val (.ref b304), .val (.long ((0 : Int64) + m322)), .second, .val (.int (2 : Int32)), .val (.int (2 : Int32))] [(.int (1 : Int32)), (.int (0 : Int32)), (.ref b304)]))
     refine own_st (fun t_ => XS.iload (own_here Y318) hx rfl (hb hby own_d1_69) rfl) ?_
     show own_Ends _ _ _ _ (T317.setTop (mkF m 71 #[.val (.ref r0), .val (.int (2 : Int32)), .val (.ref b304), .val (.long ((0 : Int64) + m322)), .second, .val (.int (2 : Int32)), .val (.int (2 : Int32))] [(.int (2 : Int32)), (.int (1 : Int32)), (.int (0 : Int32)), (.ref b304)]))
     refine own_st (fun t_ => XS.aloadN (own_here Y318) hx rfl (hb hby own_d1_71) rfl rfl) ?_
     show own_Ends _ _ _ _ (T317.setTop (mkF m 72 #[.val (.ref r0), .val (.int (2 : Int32)), .val (.ref b304), .val (.long ((0 : Int64) + m322)), .second, .val (.int (2 : Int32)), .val (.int (2 : Int32))] [(.ref r0), (.int (2 : Int32)), (.int (1 : Int32)), (.int (0 : Int32)), (.ref b304)]))
     refine own_st (fun t_ => XS.iload (own_here Y318) hx rfl (hb hby own_d1_72) rfl) ?_
     show own_Ends _ _ _ _ (T317.setTop (mkF m 74 #[.val (.ref r0), .val (.int (2 : Int32)), .val (.ref b304), .val (.long ((0 : Int64) + m322)), .second, .val (.int (2 : Int32)), .val (.int (2 : Int32))] [(.int (2 : Int32)), (.ref r0), (.int (2 : Int32)), (.int (1 : Int32)), (.int (0 : Int32)), (.ref b304)]))
     refine own_ldI Y318 hx hZ f316 (i := 2) (by decide) (by decide) (Nat.le_of_ble_eq_true rfl) (v := (.int t2)) rfl rfl rfl (hb hby own_d1_74) ?_
     show own_Ends _ _ _ _ (T317.setTop (mkF m 75 #[.val (.ref r0), .val (.int (2 : Int32)), .val (.ref b304), .val (.long ((0 : Int64) + m322)), .second, .val (.int (2 : Int32)), .val (.int (2 : Int32))] [(.int t2), (.int (2 : Int32)), (.int (1 : Int32)), (.int (0 : Int32)), (.ref b304)]))
     refine own_st (fun t_ => XS.i2l (own_here Y318) hx rfl (hb hby own_d1_75) rfl) ?_
     show own_Ends _ _ _ _ (T317.setTop (mkF m 76 #[.val (.ref r0), .val (.int (2 : Int32)), .val (.ref b304), .val (.long ((0 : Int64) + m322)), .second, .val (.int (2 : Int32)), .val (.int (2 : Int32))] [(.long (t2.toInt64)), (.int (2 : Int32)), (.int (1 : Int32)), (.int (0 : Int32)), (.ref b304)]))
     refine own_callS Y318 hx hZ (y := (⟨"com/example/poset/poset/core/Marking", "put", "([JZIIJ)V"⟩ : MethodName)) hown (hw _ (List.mem_of_getElem? (i := 7) rfl)) (hw _ (List.mem_of_getElem? (i := 8) rfl)) (hw _ (List.mem_of_getElem? (i := 4) rfl)) (hw _ (List.mem_of_getElem? (i := 9) rfl)) (by decide) (argsL := [(.ref b304), (.int (0 : Int32)), (.int (1 : Int32)), (.int (2 : Int32)), (.long (t2.toInt64))]) (rest := []) (own_rm2_2_1 l Z a0 hw [] b304 (2 : Int32) (t2.toInt64) (own_E (0 : Int32) t0) (0 : Int64) t2 h311 n0  F315 g307 rfl) (W := 0) (by decide) (by decide) (by decide) (by decide) rfl (by rw [hml]; rfl) (lenOf own_pd5 rfl) rfl (by show 2 * 0 + _ ≤ _; exact Nat.le_of_eq rfl) (hb hby own_d1_76) (fun T323 h325 v326 Y324 q327 => ?_)
     obtain ⟨rfl, K328, F329⟩ := q327
     show own_Ends _ _ _ _ (T323.setTop (mkF m 79 #[.val (.ref r0), .val (.int (2 : Int32)), .val (.ref b304), .val (.long ((0 : Int64) + m322)), .second, .val (.int (2 : Int32)), .val (.int (2 : Int32))] []))
     refine own_st (fun t_ => XS.lloadN (own_here Y324) hx rfl (hb hby own_d1_79) rfl) ?_
     show own_Ends _ _ _ _ (T323.setTop (mkF m 80 #[.val (.ref r0), .val (.int (2 : Int32)), .val (.ref b304), .val (.long ((0 : Int64) + m322)), .second, .val (.int (2 : Int32)), .val (.int (2 : Int32))] [(.long ((0 : Int64) + m322))]))
     refine own_st (fun t_ => XS.iload (own_here Y324) hx rfl (hb hby own_d1_80) rfl) ?_
     show own_Ends _ _ _ _ (T323.setTop (mkF m 82 #[.val (.ref r0), .val (.int (2 : Int32)), .val (.ref b304), .val (.long ((0 : Int64) + m322)), .second, .val (.int (2 : Int32)), .val (.int (2 : Int32))] [(.int (2 : Int32)), (.long ((0 : Int64) + m322))]))
     refine own_st (fun t_ => XS.i2l (own_here Y324) hx rfl (hb hby own_d1_82) rfl) ?_
     show own_Ends _ _ _ _ (T323.setTop (mkF m 83 #[.val (.ref r0), .val (.int (2 : Int32)), .val (.ref b304), .val (.long ((0 : Int64) + m322)), .second, .val (.int (2 : Int32)), .val (.int (2 : Int32))] [(.long (2 : Int64)), (.long ((0 : Int64) + m322))]))
     refine own_st (fun t_ => XS.aloadN (own_here Y324) hx rfl (hb hby own_d1_83) rfl rfl) ?_
     show own_Ends _ _ _ _ (T323.setTop (mkF m 84 #[.val (.ref r0), .val (.int (2 : Int32)), .val (.ref b304), .val (.long ((0 : Int64) + m322)), .second, .val (.int (2 : Int32)), .val (.int (2 : Int32))] [(.ref r0), (.long (2 : Int64)), (.long ((0 : Int64) + m322))]))
     refine own_st (fun t_ => XS.iload (own_here Y324) hx rfl (hb hby own_d1_84) rfl) ?_
     show own_Ends _ _ _ _ (T323.setTop (mkF m 86 #[.val (.ref r0), .val (.int (2 : Int32)), .val (.ref b304), .val (.long ((0 : Int64) + m322)), .second, .val (.int (2 : Int32)), .val (.int (2 : Int32))] [(.int (2 : Int32)), (.ref r0), (.long (2 : Int64)), (.long ((0 : Int64) + m322))]))
     have f330 : own_A Z h325 r0 .int [(.int t0), (.int t1), (.int t2)] := f316.keep K328 (ninS ne306 nin0)
     refine own_ldI Y324 hx hZ f330 (i := 2) (by decide) (by decide) (Nat.le_of_ble_eq_true rfl) (v := (.int t2)) rfl rfl rfl (hb hby own_d1_86) ?_
     show own_Ends _ _ _ _ (T323.setTop (mkF m 87 #[.val (.ref r0), .val (.int (2 : Int32)), .val (.ref b304), .val (.long ((0 : Int64) + m322)), .second, .val (.int (2 : Int32)), .val (.int (2 : Int32))] [(.int t2), (.long (2 : Int64)), (.long ((0 : Int64) + m322))]))
     refine own_st (fun t_ => XS.i2l (own_here Y324) hx rfl (hb hby own_d1_87) rfl) ?_
     show own_Ends _ _ _ _ (T323.setTop (mkF m 88 #[.val (.ref r0), .val (.int (2 : Int32)), .val (.ref b304), .val (.long ((0 : Int64) + m322)), .second, .val (.int (2 : Int32)), .val (.int (2 : Int32))] [(.long (t2.toInt64)), (.long (2 : Int64)), (.long ((0 : Int64) + m322))]))
     refine own_callS Y324 hx hZ (y := (⟨"com/example/poset/poset/core/Marking", "mix", "(JJ)J"⟩ : MethodName)) hown (hw _ (List.mem_of_getElem? (i := 10) rfl)) (hw _ (List.mem_of_getElem? (i := 11) rfl)) (hw _ (List.mem_of_getElem? (i := 4) rfl)) (hw _ (List.mem_of_getElem? (i := 12) rfl)) (by decide) (argsL := [(.long (2 : Int64)), (.long (t2.toInt64))]) (rest := [(.long ((0 : Int64) + m322))]) (own_rm3 l Z a0 hw [] (2 : Int64) (t2.toInt64)  h325 n0  ) (W := 2) (by decide) (by decide) (by decide) (by decide) rfl (by rw [hml]; rfl) (lenOf own_pd6 rfl) rfl (by show 2 * 0 + _ ≤ _; exact Nat.le_of_eq rfl) (hb hby own_d1_88) (fun T331 h333 v334 Y332 q335 => ?_)
     obtain ⟨m336, rfl, rfl⟩ := q335
     show own_Ends _ _ _ _ (T331.setTop (mkF m 91 #[.val (.ref r0), .val (.int (2 : Int32)), .val (.ref b304), .val (.long ((0 : Int64) + m322)), .second, .val (.int (2 : Int32)), .val (.int (2 : Int32))] [(.long m336), (.long ((0 : Int64) + m322))]))
     refine own_st (fun t_ => XS.ladd (own_here Y332) hx rfl (hb hby own_d1_91) rfl) ?_
     show own_Ends _ _ _ _ (T331.setTop (mkF m 92 #[.val (.ref r0), .val (.int (2 : Int32)), .val (.ref b304), .val (.long ((0 : Int64) + m322)), .second, .val (.int (2 : Int32)), .val (.int (2 : Int32))] [(.long (((0 : Int64) + m322) + m336))]))
     refine own_st (fun t_ => XS.lstoreN (own_here Y332) hx rfl (hb hby own_d1_92) rfl (l' := #[.val (.ref r0), .val (.int (2 : Int32)), .val (.ref b304), .val (.long (((0 : Int64) + m322) + m336)), .second, .val (.int (2 : Int32)), .val (.int (2 : Int32))]) rfl) ?_
     show own_Ends _ _ _ _ (T331.setTop (mkF m 93 #[.val (.ref r0), .val (.int (2 : Int32)), .val (.ref b304), .val (.long (((0 : Int64) + m322) + m336)), .second, .val (.int (2 : Int32)), .val (.int (2 : Int32))] []))
     refine own_st (fun t_ => XS.iinc (own_here Y332) hx rfl (hb hby own_d1_93) rfl (l' := #[.val (.ref r0), .val (.int (2 : Int32)), .val (.ref b304), .val (.long (((0 : Int64) + m322) + m336)), .second, .val (.int (2 : Int32)), .val (.int (3 : Int32))]) rfl) ?_
     show own_Ends _ _ _ _ (T331.setTop (mkF m 96 #[.val (.ref r0), .val (.int (2 : Int32)), .val (.ref b304), .val (.long (((0 : Int64) + m322) + m336)), .second, .val (.int (2 : Int32)), .val (.int (3 : Int32))] []))
     refine own_st (fun t_ => XS.goto (own_here Y332) hx rfl (pc0 := 96) (pc' := 48) rfl (hb hby own_d1_96) (by decide) (by decide)) ?_
     show own_Ends _ _ _ _ (T331.setTop (mkF m 48 #[.val (.ref r0), .val (.int (2 : Int32)), .val (.ref b304), .val (.long (((0 : Int64) + m322) + m336)), .second, .val (.int (2 : Int32)), .val (.int (3 : Int32))] []))
     refine own_st (fun t_ => XS.iload (own_here Y332) hx rfl (hb hby own_d1_48) rfl) ?_
     show own_Ends _ _ _ _ (T331.setTop (mkF m 50 #[.val (.ref r0), .val (.int (2 : Int32)), .val (.ref b304), .val (.long (((0 : Int64) + m322) + m336)), .second, .val (.int (2 : Int32)), .val (.int (3 : Int32))] [(.int (3 : Int32))]))
     refine own_st (fun t_ => XS.aloadN (own_here Y332) hx rfl (hb hby own_d1_50) rfl rfl) ?_
     show own_Ends _ _ _ _ (T331.setTop (mkF m 51 #[.val (.ref r0), .val (.int (2 : Int32)), .val (.ref b304), .val (.long (((0 : Int64) + m322) + m336)), .second, .val (.int (2 : Int32)), .val (.int (3 : Int32))] [(.ref r0), (.int (3 : Int32))]))
     refine own_len Y332 hx hZ f330 (z := (3 : Int32)) rfl rfl rfl (hb hby own_d1_51) ?_
     show own_Ends _ _ _ _ (T331.setTop (mkF m 52 #[.val (.ref r0), .val (.int (2 : Int32)), .val (.ref b304), .val (.long (((0 : Int64) + m322) + m336)), .second, .val (.int (2 : Int32)), .val (.int (3 : Int32))] [(.int (3 : Int32)), (.int (3 : Int32))]))
     refine own_st (fun t_ => XS.icmpYes (own_here Y332) hx rfl (pc0 := 52) (pc' := 99) rfl (hb hby own_d1_52) rfl (XT.ii_ge_t (by decide)) (by decide) (by decide)) ?_
     show own_Ends _ _ _ _ (T331.setTop (mkF m 99 #[.val (.ref r0), .val (.int (2 : Int32)), .val (.ref b304), .val (.long (((0 : Int64) + m322) + m336)), .second, .val (.int (2 : Int32)), .val (.int (3 : Int32))] []))
     refine own_new Y332 hx hZ hown (hw _ (List.mem_of_getElem? (i := 14) rfl)) (hw _ (List.mem_of_getElem? (i := 15) rfl)) (hw _ (List.mem_of_getElem? (i := 4) rfl)) rfl (hb hby own_d1_99) (by decide) (by decide) (fun T337 h339 b343 eb344 Y338 E340 X341 D342 => ?_)
     have ne345 : r0 ≠ b343 := Nat.ne_of_lt (by rw [eb344]; exact f330.lt)
     have ne346 : b304 ≠ b343 := Nat.ne_of_lt (by rw [eb344]; exact F329.lt)
     have z348 : n0 ≤ h301.size := Nat.le_trans Z0 E302.1
     have z349 : n0 ≤ h311.size := Nat.le_trans z348 K314.1
     have z350 : n0 ≤ h325.size := Nat.le_trans z349 K328.1
     have g347 : n0 ≤ b343 := by rw [eb344]; exact z350
     have F351 : Fld Z h339 b343 "com/example/poset/poset/core/Marking" "size" "I" (.int (0 : Int32)) := D342 _ _ _ .int (Or.inr (hw _ (List.mem_of_getElem? (i := 23) rfl))) (by decide)
     have F352 : Fld Z h339 b343 "com/example/poset/poset/core/Marking" "entries" "[J" .null := D342 _ _ _ (.array .long) (Or.inr (hw _ (List.mem_of_getElem? (i := 25) rfl))) (by decide)
     have F353 : Fld Z h339 b343 "com/example/poset/poset/core/Marking" "wide" "Z" (.int (0 : Int32)) := D342 _ _ _ .boolean (Or.inr (hw _ (List.mem_of_getElem? (i := 27) rfl))) (by decide)
     have F354 : Fld Z h339 b343 "com/example/poset/poset/core/Marking" "mixed" "J" (.long (0 : Int64)) := D342 _ _ _ .long (Or.inr (hw _ (List.mem_of_getElem? (i := 29) rfl))) (by decide)
     show own_Ends _ _ _ _ (T337.setTop (mkF m 102 #[.val (.ref r0), .val (.int (2 : Int32)), .val (.ref b304), .val (.long (((0 : Int64) + m322) + m336)), .second, .val (.int (2 : Int32)), .val (.int (3 : Int32))] [(.ref b343)]))
     refine own_st (fun t_ => XS.dup (own_here Y338) hx rfl (hb hby own_d1_102) rfl rfl) ?_
     show own_Ends _ _ _ _ (T337.setTop (mkF m 103 #[.val (.ref r0), .val (.int (2 : Int32)), .val (.ref b304), .val (.long (((0 : Int64) + m322) + m336)), .second, .val (.int (2 : Int32)), .val (.int (3 : Int32))] [(.ref b343), (.ref b343)]))
     refine own_st (fun t_ => XS.aloadN (own_here Y338) hx rfl (hb hby own_d1_103) rfl rfl) ?_
     show own_Ends _ _ _ _ (T337.setTop (mkF m 104 #[.val (.ref r0), .val (.int (2 : Int32)), .val (.ref b304), .val (.long (((0 : Int64) + m322) + m336)), .second, .val (.int (2 : Int32)), .val (.int (3 : Int32))] [(.ref r0), (.ref b343), (.ref b343)]))
     have f355 : own_A Z h339 r0 .int [(.int t0), (.int t1), (.int t2)] := f330.ext E340
     refine own_len Y338 hx hZ f355 (z := (3 : Int32)) rfl rfl rfl (hb hby own_d1_104) ?_
     show own_Ends _ _ _ _ (T337.setTop (mkF m 105 #[.val (.ref r0), .val (.int (2 : Int32)), .val (.ref b304), .val (.long (((0 : Int64) + m322) + m336)), .second, .val (.int (2 : Int32)), .val (.int (3 : Int32))] [(.int (3 : Int32)), (.ref b343), (.ref b343)]))
     refine own_st (fun t_ => XS.aloadN (own_here Y338) hx rfl (hb hby own_d1_105) rfl rfl) ?_
     show own_Ends _ _ _ _ (T337.setTop (mkF m 106 #[.val (.ref r0), .val (.int (2 : Int32)), .val (.ref b304), .val (.long (((0 : Int64) + m322) + m336)), .second, .val (.int (2 : Int32)), .val (.int (3 : Int32))] [(.ref b304), (.int (3 : Int32)), (.ref b343), (.ref b343)]))
     refine own_st (fun t_ => XS.iconst (own_here Y338) hx rfl (hb hby own_d1_106) ) ?_
     show own_Ends _ _ _ _ (T337.setTop (mkF m 107 #[.val (.ref r0), .val (.int (2 : Int32)), .val (.ref b304), .val (.long (((0 : Int64) + m322) + m336)), .second, .val (.int (2 : Int32)), .val (.int (3 : Int32))] [(.int (0 : Int32)), (.ref b304), (.int (3 : Int32)), (.ref b343), (.ref b343)]))
     refine own_st (fun t_ => XS.lloadN (own_here Y338) hx rfl (hb hby own_d1_107) rfl) ?_
     show own_Ends _ _ _ _ (T337.setTop (mkF m 108 #[.val (.ref r0), .val (.int (2 : Int32)), .val (.ref b304), .val (.long (((0 : Int64) + m322) + m336)), .second, .val (.int (2 : Int32)), .val (.int (3 : Int32))] [(.long (((0 : Int64) + m322) + m336)), (.int (0 : Int32)), (.ref b304), (.int (3 : Int32)), (.ref b343), (.ref b343)]))
     refine own_callN Y338 hx hZ (y := (⟨"com/example/poset/poset/core/Marking", "<init>", "(I[JZJ)V"⟩ : MethodName)) rfl hown (hw _ (List.mem_of_getElem? (i := 16) rfl)) (hw _ (List.mem_of_getElem? (i := 17) rfl)) (hw _ (List.mem_of_getElem? (i := 4) rfl)) (hw _ (List.mem_of_getElem? (i := 18) rfl)) (by decide) (a := b343) (argsL := [(.int (3 : Int32)), (.ref b304), (.int (0 : Int32)), (.long (((0 : Int64) + m322) + m336))]) (rest := [(.ref b343)]) (own_rm4 l Z a0 hw [] b343 (3 : Int32) b304 (((0 : Int64) + m322) + m336)  h339 n0  X341 F351 F352 F353 F354 g347) (W := 1) (by decide) (by decide) (by decide) (by decide) rfl (by rw [hml]; rfl) (lenOf own_pd7 rfl) rfl (by show 2 * 0 + _ ≤ _; exact Nat.le_of_eq rfl) (hb hby own_d1_108) (fun T356 h358 v359 Y357 q360 => ?_)
     obtain ⟨rfl, K361, F362, F363, F364⟩ := q360
     show own_Ends _ _ _ _ (T356.setTop (mkF m 111 #[.val (.ref r0), .val (.int (2 : Int32)), .val (.ref b304), .val (.long (((0 : Int64) + m322) + m336)), .second, .val (.int (2 : Int32)), .val (.int (3 : Int32))] [(.ref b343)]))
     have z365 : n0 ≤ h339.size := Nat.le_trans z350 E340.1
     have z366 : n0 ≤ h358.size := Nat.le_trans z365 K361.1
     have f367 : own_A Z h339 b304 .long [(.long (own_E (0 : Int32) t0)), (.long (own_E (2 : Int32) t2))] := F329.ext E340
     have f368 : own_A Z h358 b304 .long [(.long (own_E (0 : Int32) t0)), (.long (own_E (2 : Int32) t2))] := f367.keep K361 (ninS ne346 nin0)
     have hes : own_es t0 t1 t2 = [(own_E (0 : Int32) t0), (own_E (2 : Int32) t2)] := by simp [own_es, c24_138, c24_139, c24_298]
     have f369 : Exa Z h358 b343 "com/example/poset/poset/core/Marking" := X341.keep K361
     refine own_retA Y357 hx hlk hret rfl rfl rfl (hb hby own_d1_111) (by decide) (by decide) ?_
     exact ⟨_, _, rfl, z366, f369, F362, F363, F364, by rw [hes]; exact f368⟩
    ·
     refine own_st (fun t_ => XS.ifYes (own_here Y0) hx rfl (pc0 := 24) (pc' := 30) rfl (hb hby own_d1_24) rfl (XT.i0_le_t c24_298) (by decide) (by decide)) ?_
     show own_Ends _ _ _ _ (T0.setTop (mkF m 30 #[.val (.ref r0), .val (.int (1 : Int32)), .val (.ref r0), .val (.int (3 : Int32)), .val (.int (2 : Int32)), .val (.int t2), .unset] []))
     refine own_st (fun t_ => XS.iinc (own_here Y0) hx rfl (hb hby own_d1_30) rfl (l' := #[.val (.ref r0), .val (.int (1 : Int32)), .val (.ref r0), .val (.int (3 : Int32)), .val (.int (3 : Int32)), .val (.int t2), .unset]) rfl) ?_
     show own_Ends _ _ _ _ (T0.setTop (mkF m 33 #[.val (.ref r0), .val (.int (1 : Int32)), .val (.ref r0), .val (.int (3 : Int32)), .val (.int (3 : Int32)), .val (.int t2), .unset] []))
     refine own_st (fun t_ => XS.goto (own_here Y0) hx rfl (pc0 := 33) (pc' := 10) rfl (hb hby own_d1_33) (by decide) (by decide)) ?_
     show own_Ends _ _ _ _ (T0.setTop (mkF m 10 #[.val (.ref r0), .val (.int (1 : Int32)), .val (.ref r0), .val (.int (3 : Int32)), .val (.int (3 : Int32)), .val (.int t2), .unset] []))
     refine own_st (fun t_ => XS.iload (own_here Y0) hx rfl (hb hby own_d1_10) rfl) ?_
     show own_Ends _ _ _ _ (T0.setTop (mkF m 12 #[.val (.ref r0), .val (.int (1 : Int32)), .val (.ref r0), .val (.int (3 : Int32)), .val (.int (3 : Int32)), .val (.int t2), .unset] [(.int (3 : Int32))]))
     refine own_st (fun t_ => XS.iloadN (own_here Y0) hx rfl (hb hby own_d1_12) rfl) ?_
     show own_Ends _ _ _ _ (T0.setTop (mkF m 13 #[.val (.ref r0), .val (.int (1 : Int32)), .val (.ref r0), .val (.int (3 : Int32)), .val (.int (3 : Int32)), .val (.int t2), .unset] [(.int (3 : Int32)), (.int (3 : Int32))]))
     refine own_st (fun t_ => XS.icmpYes (own_here Y0) hx rfl (pc0 := 13) (pc' := 36) rfl (hb hby own_d1_13) rfl (XT.ii_ge_t (by decide)) (by decide) (by decide)) ?_
     show own_Ends _ _ _ _ (T0.setTop (mkF m 36 #[.val (.ref r0), .val (.int (1 : Int32)), .val (.ref r0), .val (.int (3 : Int32)), .val (.int (3 : Int32)), .val (.int t2), .unset] []))
     refine own_st (fun t_ => XS.iloadN (own_here Y0) hx rfl (hb hby own_d1_36) rfl) ?_
     show own_Ends _ _ _ _ (T0.setTop (mkF m 37 #[.val (.ref r0), .val (.int (1 : Int32)), .val (.ref r0), .val (.int (3 : Int32)), .val (.int (3 : Int32)), .val (.int t2), .unset] [(.int (1 : Int32))]))
     refine own_newP Y0 hx hZ (hw _ (List.mem_of_getElem? (i := 6) rfl)) rfl (hb hby own_d1_37) rfl (by decide) (nz := 1) (cap := 1) (by decide) (by decide) (by decide) (by decide) (by decide) (ty := .long) rfl (fun T370 h372 b375 eb376 Y371 E373 A374 => ?_)
     have ne377 : r0 ≠ b375 := Nat.ne_of_lt (by rw [eb376]; exact A.lt)
     have g378 : n0 ≤ b375 := by rw [eb376]; exact Z0
     replace A374 : own_A Z h372 b375 .long [(.long (0 : Int64))] := A374
     show own_Ends _ _ _ _ (T370.setTop (mkF m 39 #[.val (.ref r0), .val (.int (1 : Int32)), .val (.ref r0), .val (.int (3 : Int32)), .val (.int (3 : Int32)), .val (.int t2), .unset] [(.ref b375)]))
     refine own_st (fun t_ => XS.astoreN (own_here Y371) hx rfl (hb hby own_d1_39) rfl rfl (l' := #[.val (.ref r0), .val (.int (1 : Int32)), .val (.ref b375), .val (.int (3 : Int32)), .val (.int (3 : Int32)), .val (.int t2), .unset]) rfl) ?_
     show own_Ends _ _ _ _ (T370.setTop (mkF m 40 #[.val (.ref r0), .val (.int (1 : Int32)), .val (.ref b375), .val (.int (3 : Int32)), .val (.int (3 : Int32)), .val (.int t2), .unset] []))
     refine own_st (fun t_ => XS.lconst (own_here Y371) hx rfl (hb hby own_d1_40) ) ?_
     show own_Ends _ _ _ _ (T370.setTop (mkF m 41 #[.val (.ref r0), .val (.int (1 : Int32)), .val (.ref b375), .val (.int (3 : Int32)), .val (.int (3 : Int32)), .val (.int t2), .unset] [(.long (0 : Int64))]))
     refine own_st (fun t_ => XS.lstoreN (own_here Y371) hx rfl (hb hby own_d1_41) rfl (l' := #[.val (.ref r0), .val (.int (1 : Int32)), .val (.ref b375), .val (.long (0 : Int64)), .second, .val (.int t2), .unset]) rfl) ?_
     show own_Ends _ _ _ _ (T370.setTop (mkF m 42 #[.val (.ref r0), .val (.int (1 : Int32)), .val (.ref b375), .val (.long (0 : Int64)), .second, .val (.int t2), .unset] []))
     refine own_st (fun t_ => XS.iconst (own_here Y371) hx rfl (hb hby own_d1_42) ) ?_
     show own_Ends _ _ _ _ (T370.setTop (mkF m 43 #[.val (.ref r0), .val (.int (1 : Int32)), .val (.ref b375), .val (.long (0 : Int64)), .second, .val (.int t2), .unset] [(.int (0 : Int32))]))
     refine own_st (fun t_ => XS.istore (own_here Y371) hx rfl (hb hby own_d1_43) rfl (l' := #[.val (.ref r0), .val (.int (1 : Int32)), .val (.ref b375), .val (.long (0 : Int64)), .second, .val (.int (0 : Int32)), .unset]) rfl) ?_
     show own_Ends _ _ _ _ (T370.setTop (mkF m 45 #[.val (.ref r0), .val (.int (1 : Int32)), .val (.ref b375), .val (.long (0 : Int64)), .second, .val (.int (0 : Int32)), .unset] []))
     refine own_st (fun t_ => XS.iconst (own_here Y371) hx rfl (hb hby own_d1_45) ) ?_
     show own_Ends _ _ _ _ (T370.setTop (mkF m 46 #[.val (.ref r0), .val (.int (1 : Int32)), .val (.ref b375), .val (.long (0 : Int64)), .second, .val (.int (0 : Int32)), .unset] [(.int (0 : Int32))]))
     refine own_st (fun t_ => XS.istore (own_here Y371) hx rfl (hb hby own_d1_46) rfl (l' := #[.val (.ref r0), .val (.int (1 : Int32)), .val (.ref b375), .val (.long (0 : Int64)), .second, .val (.int (0 : Int32)), .val (.int (0 : Int32))]) rfl) ?_
     show own_Ends _ _ _ _ (T370.setTop (mkF m 48 #[.val (.ref r0), .val (.int (1 : Int32)), .val (.ref b375), .val (.long (0 : Int64)), .second, .val (.int (0 : Int32)), .val (.int (0 : Int32))] []))
     refine own_st (fun t_ => XS.iload (own_here Y371) hx rfl (hb hby own_d1_48) rfl) ?_
     show own_Ends _ _ _ _ (T370.setTop (mkF m 50 #[.val (.ref r0), .val (.int (1 : Int32)), .val (.ref b375), .val (.long (0 : Int64)), .second, .val (.int (0 : Int32)), .val (.int (0 : Int32))] [(.int (0 : Int32))]))
     refine own_st (fun t_ => XS.aloadN (own_here Y371) hx rfl (hb hby own_d1_50) rfl rfl) ?_
     show own_Ends _ _ _ _ (T370.setTop (mkF m 51 #[.val (.ref r0), .val (.int (1 : Int32)), .val (.ref b375), .val (.long (0 : Int64)), .second, .val (.int (0 : Int32)), .val (.int (0 : Int32))] [(.ref r0), (.int (0 : Int32))]))
     have f379 : own_A Z h372 r0 .int [(.int t0), (.int t1), (.int t2)] := A.ext E373
     refine own_len Y371 hx hZ f379 (z := (3 : Int32)) rfl rfl rfl (hb hby own_d1_51) ?_
     show own_Ends _ _ _ _ (T370.setTop (mkF m 52 #[.val (.ref r0), .val (.int (1 : Int32)), .val (.ref b375), .val (.long (0 : Int64)), .second, .val (.int (0 : Int32)), .val (.int (0 : Int32))] [(.int (3 : Int32)), (.int (0 : Int32))]))
     refine own_st (fun t_ => XS.icmpNo (own_here Y371) hx rfl (hb hby own_d1_52) rfl (XT.ii_ge_f (by decide))) ?_
     show own_Ends _ _ _ _ (T370.setTop (mkF m 55 #[.val (.ref r0), .val (.int (1 : Int32)), .val (.ref b375), .val (.long (0 : Int64)), .second, .val (.int (0 : Int32)), .val (.int (0 : Int32))] []))
     refine own_st (fun t_ => XS.aloadN (own_here Y371) hx rfl (hb hby own_d1_55) rfl rfl) ?_
     show own_Ends _ _ _ _ (T370.setTop (mkF m 56 #[.val (.ref r0), .val (.int (1 : Int32)), .val (.ref b375), .val (.long (0 : Int64)), .second, .val (.int (0 : Int32)), .val (.int (0 : Int32))] [(.ref r0)]))
     refine own_st (fun t_ => XS.iload (own_here Y371) hx rfl (hb hby own_d1_56) rfl) ?_
     show own_Ends _ _ _ _ (T370.setTop (mkF m 58 #[.val (.ref r0), .val (.int (1 : Int32)), .val (.ref b375), .val (.long (0 : Int64)), .second, .val (.int (0 : Int32)), .val (.int (0 : Int32))] [(.int (0 : Int32)), (.ref r0)]))
     refine own_ldI Y371 hx hZ f379 (i := 0) (by decide) (by decide) (Nat.le_of_ble_eq_true rfl) (v := (.int t0)) rfl rfl rfl (hb hby own_d1_58) ?_
     show own_Ends _ _ _ _ (T370.setTop (mkF m 59 #[.val (.ref r0), .val (.int (1 : Int32)), .val (.ref b375), .val (.long (0 : Int64)), .second, .val (.int (0 : Int32)), .val (.int (0 : Int32))] [(.int t0)]))
     refine own_st (fun t_ => XS.ifNo (own_here Y371) hx rfl (hb hby own_d1_59) rfl (XT.i0_le_f c24_138)) ?_
     show own_Ends _ _ _ _ (T370.setTop (mkF m 62 #[.val (.ref r0), .val (.int (1 : Int32)), .val (.ref b375), .val (.long (0 : Int64)), .second, .val (.int (0 : Int32)), .val (.int (0 : Int32))] []))
     refine own_st (fun t_ => XS.aloadN (own_here Y371) hx rfl (hb hby own_d1_62) rfl rfl) ?_
     show own_Ends _ _ _ _ (T370.setTop (mkF m 63 #[.val (.ref r0), .val (.int (1 : Int32)), .val (.ref b375), .val (.long (0 : Int64)), .second, .val (.int (0 : Int32)), .val (.int (0 : Int32))] [(.ref b375)]))
     refine own_st (fun t_ => XS.iconst (own_here Y371) hx rfl (hb hby own_d1_63) ) ?_
     show own_Ends _ _ _ _ (T370.setTop (mkF m 64 #[.val (.ref r0), .val (.int (1 : Int32)), .val (.ref b375), .val (.long (0 : Int64)), .second, .val (.int (0 : Int32)), .val (.int (0 : Int32))] [(.int (0 : Int32)), (.ref b375)]))
     refine own_st (fun t_ => XS.iload (own_here Y371) hx rfl (hb hby own_d1_64) rfl) ?_
     show own_Ends _ _ _ _ (T370.setTop (mkF m 66 #[.val (.ref r0), .val (.int (1 : Int32)), .val (.ref b375), .val (.long (0 : Int64)), .second, .val (.int (0 : Int32)), .val (.int (0 : Int32))] [(.int (0 : Int32)), (.int (0 : Int32)), (.ref b375)]))
     refine own_st (fun t_ => XS.iinc (own_here Y371) hx rfl (hb hby own_d1_66) rfl (l' := #[.val (.ref r0), .val (.int (1 : Int32)), .val (.ref b375), .val (.long (0 : Int64)), .second, .val (.int (1 : Int32)), .val (.int (0 : Int32))]) rfl) ?_
     show own_Ends _ _ _ _ (T370.setTop (mkF m 69 #[.val (.ref r0), .val (.int (1 : Int32)), .val (.ref b375), .val (.long (0 : Int64)), .second, .val (.int (1 : Int32)), .val (.int (0 : Int32))] [(.int (0 : Int32)), (.int (0 : Int32)), (.ref b375)]))
     refine own_st (fun t_ => XS.iload (own_here Y371) hx rfl (hb hby own_d1_69) rfl) ?_
     show own_Ends _ _ _ _ (T370.setTop (mkF m 71 #[.val (.ref r0), .val (.int (1 : Int32)), .val (.ref b375), .val (.long (0 : Int64)), .second, .val (.int (1 : Int32)), .val (.int (0 : Int32))] [(.int (0 : Int32)), (.int (0 : Int32)), (.int (0 : Int32)), (.ref b375)]))
     refine own_st (fun t_ => XS.aloadN (own_here Y371) hx rfl (hb hby own_d1_71) rfl rfl) ?_
     show own_Ends _ _ _ _ (T370.setTop (mkF m 72 #[.val (.ref r0), .val (.int (1 : Int32)), .val (.ref b375), .val (.long (0 : Int64)), .second, .val (.int (1 : Int32)), .val (.int (0 : Int32))] [(.ref r0), (.int (0 : Int32)), (.int (0 : Int32)), (.int (0 : Int32)), (.ref b375)]))
     refine own_st (fun t_ => XS.iload (own_here Y371) hx rfl (hb hby own_d1_72) rfl) ?_
     show own_Ends _ _ _ _ (T370.setTop (mkF m 74 #[.val (.ref r0), .val (.int (1 : Int32)), .val (.ref b375), .val (.long (0 : Int64)), .second, .val (.int (1 : Int32)), .val (.int (0 : Int32))] [(.int (0 : Int32)), (.ref r0), (.int (0 : Int32)), (.int (0 : Int32)), (.int (0 : Int32)), (.ref b375)]))
     refine own_ldI Y371 hx hZ f379 (i := 0) (by decide) (by decide) (Nat.le_of_ble_eq_true rfl) (v := (.int t0)) rfl rfl rfl (hb hby own_d1_74) ?_
     show own_Ends _ _ _ _ (T370.setTop (mkF m 75 #[.val (.ref r0), .val (.int (1 : Int32)), .val (.ref b375), .val (.long (0 : Int64)), .second, .val (.int (1 : Int32)), .val (.int (0 : Int32))] [(.int t0), (.int (0 : Int32)), (.int (0 : Int32)), (.int (0 : Int32)), (.ref b375)]))
     refine own_st (fun t_ => XS.i2l (own_here Y371) hx rfl (hb hby own_d1_75) rfl) ?_
     show own_Ends _ _ _ _ (T370.setTop (mkF m 76 #[.val (.ref r0), .val (.int (1 : Int32)), .val (.ref b375), .val (.long (0 : Int64)), .second, .val (.int (1 : Int32)), .val (.int (0 : Int32))] [(.long (t0.toInt64)), (.int (0 : Int32)), (.int (0 : Int32)), (.int (0 : Int32)), (.ref b375)]))
     refine own_callS Y371 hx hZ (y := (⟨"com/example/poset/poset/core/Marking", "put", "([JZIIJ)V"⟩ : MethodName)) hown (hw _ (List.mem_of_getElem? (i := 7) rfl)) (hw _ (List.mem_of_getElem? (i := 8) rfl)) (hw _ (List.mem_of_getElem? (i := 4) rfl)) (hw _ (List.mem_of_getElem? (i := 9) rfl)) (by decide) (argsL := [(.ref b375), (.int (0 : Int32)), (.int (0 : Int32)), (.int (0 : Int32)), (.long (t0.toInt64))]) (rest := []) (own_rm2_1_0 l Z a0 hw [] b375 (0 : Int32) (t0.toInt64) (0 : Int64) t0 h372 n0  A374 g378 rfl) (W := 0) (by decide) (by decide) (by decide) (by decide) rfl (by rw [hml]; rfl) (lenOf own_pd5 rfl) rfl (by show 2 * 0 + _ ≤ _; exact Nat.le_of_eq rfl) (hb hby own_d1_76) (fun T380 h382 v383 Y381 q384 => ?_)
     obtain ⟨rfl, K385, F386⟩ := q384
     show own_Ends _ _ _ _ (T380.setTop (mkF m 79 #[.val (.ref r0), .val (.int (1 : Int32)), .val (.ref b375), .val (.long (0 : Int64)), .second, .val (.int (1 : Int32)), .val (.int (0 : Int32))] []))
     refine own_st (fun t_ => XS.lloadN (own_here Y381) hx rfl (hb hby own_d1_79) rfl) ?_
     show own_Ends _ _ _ _ (T380.setTop (mkF m 80 #[.val (.ref r0), .val (.int (1 : Int32)), .val (.ref b375), .val (.long (0 : Int64)), .second, .val (.int (1 : Int32)), .val (.int (0 : Int32))] [(.long (0 : Int64))]))
     refine own_st (fun t_ => XS.iload (own_here Y381) hx rfl (hb hby own_d1_80) rfl) ?_
     show own_Ends _ _ _ _ (T380.setTop (mkF m 82 #[.val (.ref r0), .val (.int (1 : Int32)), .val (.ref b375), .val (.long (0 : Int64)), .second, .val (.int (1 : Int32)), .val (.int (0 : Int32))] [(.int (0 : Int32)), (.long (0 : Int64))]))
     refine own_st (fun t_ => XS.i2l (own_here Y381) hx rfl (hb hby own_d1_82) rfl) ?_
     show own_Ends _ _ _ _ (T380.setTop (mkF m 83 #[.val (.ref r0), .val (.int (1 : Int32)), .val (.ref b375), .val (.long (0 : Int64)), .second, .val (.int (1 : Int32)), .val (.int (0 : Int32))] [(.long (0 : Int64)), (.long (0 : Int64))]))
     refine own_st (fun t_ => XS.aloadN (own_here Y381) hx rfl (hb hby own_d1_83) rfl rfl) ?_
     show own_Ends _ _ _ _ (T380.setTop (mkF m 84 #[.val (.ref r0), .val (.int (1 : Int32)), .val (.ref b375), .val (.long (0 : Int64)), .second, .val (.int (1 : Int32)), .val (.int (0 : Int32))] [(.ref r0), (.long (0 : Int64)), (.long (0 : Int64))]))
     refine own_st (fun t_ => XS.iload (own_here Y381) hx rfl (hb hby own_d1_84) rfl) ?_
     show own_Ends _ _ _ _ (T380.setTop (mkF m 86 #[.val (.ref r0), .val (.int (1 : Int32)), .val (.ref b375), .val (.long (0 : Int64)), .second, .val (.int (1 : Int32)), .val (.int (0 : Int32))] [(.int (0 : Int32)), (.ref r0), (.long (0 : Int64)), (.long (0 : Int64))]))
     have f387 : own_A Z h382 r0 .int [(.int t0), (.int t1), (.int t2)] := f379.keep K385 (ninS ne377 nin0)
     refine own_ldI Y381 hx hZ f387 (i := 0) (by decide) (by decide) (Nat.le_of_ble_eq_true rfl) (v := (.int t0)) rfl rfl rfl (hb hby own_d1_86) ?_
     show own_Ends _ _ _ _ (T380.setTop (mkF m 87 #[.val (.ref r0), .val (.int (1 : Int32)), .val (.ref b375), .val (.long (0 : Int64)), .second, .val (.int (1 : Int32)), .val (.int (0 : Int32))] [(.int t0), (.long (0 : Int64)), (.long (0 : Int64))]))
     refine own_st (fun t_ => XS.i2l (own_here Y381) hx rfl (hb hby own_d1_87) rfl) ?_
     show own_Ends _ _ _ _ (T380.setTop (mkF m 88 #[.val (.ref r0), .val (.int (1 : Int32)), .val (.ref b375), .val (.long (0 : Int64)), .second, .val (.int (1 : Int32)), .val (.int (0 : Int32))] [(.long (t0.toInt64)), (.long (0 : Int64)), (.long (0 : Int64))]))
     refine own_callS Y381 hx hZ (y := (⟨"com/example/poset/poset/core/Marking", "mix", "(JJ)J"⟩ : MethodName)) hown (hw _ (List.mem_of_getElem? (i := 10) rfl)) (hw _ (List.mem_of_getElem? (i := 11) rfl)) (hw _ (List.mem_of_getElem? (i := 4) rfl)) (hw _ (List.mem_of_getElem? (i := 12) rfl)) (by decide) (argsL := [(.long (0 : Int64)), (.long (t0.toInt64))]) (rest := [(.long (0 : Int64))]) (own_rm3 l Z a0 hw [] (0 : Int64) (t0.toInt64)  h382 n0  ) (W := 2) (by decide) (by decide) (by decide) (by decide) rfl (by rw [hml]; rfl) (lenOf own_pd6 rfl) rfl (by show 2 * 0 + _ ≤ _; exact Nat.le_of_eq rfl) (hb hby own_d1_88) (fun T388 h390 v391 Y389 q392 => ?_)
     obtain ⟨m393, rfl, rfl⟩ := q392
     show own_Ends _ _ _ _ (T388.setTop (mkF m 91 #[.val (.ref r0), .val (.int (1 : Int32)), .val (.ref b375), .val (.long (0 : Int64)), .second, .val (.int (1 : Int32)), .val (.int (0 : Int32))] [(.long m393), (.long (0 : Int64))]))
     refine own_st (fun t_ => XS.ladd (own_here Y389) hx rfl (hb hby own_d1_91) rfl) ?_
     show own_Ends _ _ _ _ (T388.setTop (mkF m 92 #[.val (.ref r0), .val (.int (1 : Int32)), .val (.ref b375), .val (.long (0 : Int64)), .second, .val (.int (1 : Int32)), .val (.int (0 : Int32))] [(.long ((0 : Int64) + m393))]))
     refine own_st (fun t_ => XS.lstoreN (own_here Y389) hx rfl (hb hby own_d1_92) rfl (l' := #[.val (.ref r0), .val (.int (1 : Int32)), .val (.ref b375), .val (.long ((0 : Int64) + m393)), .second, .val (.int (1 : Int32)), .val (.int (0 : Int32))]) rfl) ?_
     show own_Ends _ _ _ _ (T388.setTop (mkF m 93 #[.val (.ref r0), .val (.int (1 : Int32)), .val (.ref b375), .val (.long ((0 : Int64) + m393)), .second, .val (.int (1 : Int32)), .val (.int (0 : Int32))] []))
     refine own_st (fun t_ => XS.iinc (own_here Y389) hx rfl (hb hby own_d1_93) rfl (l' := #[.val (.ref r0), .val (.int (1 : Int32)), .val (.ref b375), .val (.long ((0 : Int64) + m393)), .second, .val (.int (1 : Int32)), .val (.int (1 : Int32))]) rfl) ?_
     show own_Ends _ _ _ _ (T388.setTop (mkF m 96 #[.val (.ref r0), .val (.int (1 : Int32)), .val (.ref b375), .val (.long ((0 : Int64) + m393)), .second, .val (.int (1 : Int32)), .val (.int (1 : Int32))] []))
     refine own_st (fun t_ => XS.goto (own_here Y389) hx rfl (pc0 := 96) (pc' := 48) rfl (hb hby own_d1_96) (by decide) (by decide)) ?_
     show own_Ends _ _ _ _ (T388.setTop (mkF m 48 #[.val (.ref r0), .val (.int (1 : Int32)), .val (.ref b375), .val (.long ((0 : Int64) + m393)), .second, .val (.int (1 : Int32)), .val (.int (1 : Int32))] []))
     refine own_st (fun t_ => XS.iload (own_here Y389) hx rfl (hb hby own_d1_48) rfl) ?_
     show own_Ends _ _ _ _ (T388.setTop (mkF m 50 #[.val (.ref r0), .val (.int (1 : Int32)), .val (.ref b375), .val (.long ((0 : Int64) + m393)), .second, .val (.int (1 : Int32)), .val (.int (1 : Int32))] [(.int (1 : Int32))]))
     refine own_st (fun t_ => XS.aloadN (own_here Y389) hx rfl (hb hby own_d1_50) rfl rfl) ?_
     show own_Ends _ _ _ _ (T388.setTop (mkF m 51 #[.val (.ref r0), .val (.int (1 : Int32)), .val (.ref b375), .val (.long ((0 : Int64) + m393)), .second, .val (.int (1 : Int32)), .val (.int (1 : Int32))] [(.ref r0), (.int (1 : Int32))]))
     refine own_len Y389 hx hZ f387 (z := (3 : Int32)) rfl rfl rfl (hb hby own_d1_51) ?_
     show own_Ends _ _ _ _ (T388.setTop (mkF m 52 #[.val (.ref r0), .val (.int (1 : Int32)), .val (.ref b375), .val (.long ((0 : Int64) + m393)), .second, .val (.int (1 : Int32)), .val (.int (1 : Int32))] [(.int (3 : Int32)), (.int (1 : Int32))]))
     refine own_st (fun t_ => XS.icmpNo (own_here Y389) hx rfl (hb hby own_d1_52) rfl (XT.ii_ge_f (by decide))) ?_
     show own_Ends _ _ _ _ (T388.setTop (mkF m 55 #[.val (.ref r0), .val (.int (1 : Int32)), .val (.ref b375), .val (.long ((0 : Int64) + m393)), .second, .val (.int (1 : Int32)), .val (.int (1 : Int32))] []))
     refine own_st (fun t_ => XS.aloadN (own_here Y389) hx rfl (hb hby own_d1_55) rfl rfl) ?_
     show own_Ends _ _ _ _ (T388.setTop (mkF m 56 #[.val (.ref r0), .val (.int (1 : Int32)), .val (.ref b375), .val (.long ((0 : Int64) + m393)), .second, .val (.int (1 : Int32)), .val (.int (1 : Int32))] [(.ref r0)]))
     refine own_st (fun t_ => XS.iload (own_here Y389) hx rfl (hb hby own_d1_56) rfl) ?_
     show own_Ends _ _ _ _ (T388.setTop (mkF m 58 #[.val (.ref r0), .val (.int (1 : Int32)), .val (.ref b375), .val (.long ((0 : Int64) + m393)), .second, .val (.int (1 : Int32)), .val (.int (1 : Int32))] [(.int (1 : Int32)), (.ref r0)]))
     refine own_ldI Y389 hx hZ f387 (i := 1) (by decide) (by decide) (Nat.le_of_ble_eq_true rfl) (v := (.int t1)) rfl rfl rfl (hb hby own_d1_58) ?_
     show own_Ends _ _ _ _ (T388.setTop (mkF m 59 #[.val (.ref r0), .val (.int (1 : Int32)), .val (.ref b375), .val (.long ((0 : Int64) + m393)), .second, .val (.int (1 : Int32)), .val (.int (1 : Int32))] [(.int t1)]))
     refine own_st (fun t_ => XS.ifYes (own_here Y389) hx rfl (pc0 := 59) (pc' := 93) rfl (hb hby own_d1_59) rfl (XT.i0_le_t c24_139) (by decide) (by decide)) ?_
     show own_Ends _ _ _ _ (T388.setTop (mkF m 93 #[.val (.ref r0), .val (.int (1 : Int32)), .val (.ref b375), .val (.long ((0 : Int64) + m393)), .second, .val (.int (1 : Int32)), .val (.int (1 : Int32))] []))
     refine own_st (fun t_ => XS.iinc (own_here Y389) hx rfl (hb hby own_d1_93) rfl (l' := #[.val (.ref r0), .val (.int (1 : Int32)), .val (.ref b375), .val (.long ((0 : Int64) + m393)), .second, .val (.int (1 : Int32)), .val (.int (2 : Int32))]) rfl) ?_
     show own_Ends _ _ _ _ (T388.setTop (mkF m 96 #[.val (.ref r0), .val (.int (1 : Int32)), .val (.ref b375), .val (.long ((0 : Int64) + m393)), .second, .val (.int (1 : Int32)), .val (.int (2 : Int32))] []))
     refine own_st (fun t_ => XS.goto (own_here Y389) hx rfl (pc0 := 96) (pc' := 48) rfl (hb hby own_d1_96) (by decide) (by decide)) ?_
     show own_Ends _ _ _ _ (T388.setTop (mkF m 48 #[.val (.ref r0), .val (.int (1 : Int32)), .val (.ref b375), .val (.long ((0 : Int64) + m393)), .second, .val (.int (1 : Int32)), .val (.int (2 : Int32))] []))
     refine own_st (fun t_ => XS.iload (own_here Y389) hx rfl (hb hby own_d1_48) rfl) ?_
     show own_Ends _ _ _ _ (T388.setTop (mkF m 50 #[.val (.ref r0), .val (.int (1 : Int32)), .val (.ref b375), .val (.long ((0 : Int64) + m393)), .second, .val (.int (1 : Int32)), .val (.int (2 : Int32))] [(.int (2 : Int32))]))
     refine own_st (fun t_ => XS.aloadN (own_here Y389) hx rfl (hb hby own_d1_50) rfl rfl) ?_
     show own_Ends _ _ _ _ (T388.setTop (mkF m 51 #[.val (.ref r0), .val (.int (1 : Int32)), .val (.ref b375), .val (.long ((0 : Int64) + m393)), .second, .val (.int (1 : Int32)), .val (.int (2 : Int32))] [(.ref r0), (.int (2 : Int32))]))
     refine own_len Y389 hx hZ f387 (z := (3 : Int32)) rfl rfl rfl (hb hby own_d1_51) ?_
     show own_Ends _ _ _ _ (T388.setTop (mkF m 52 #[.val (.ref r0), .val (.int (1 : Int32)), .val (.ref b375), .val (.long ((0 : Int64) + m393)), .second, .val (.int (1 : Int32)), .val (.int (2 : Int32))] [(.int (3 : Int32)), (.int (2 : Int32))]))
     refine own_st (fun t_ => XS.icmpNo (own_here Y389) hx rfl (hb hby own_d1_52) rfl (XT.ii_ge_f (by decide))) ?_
     show own_Ends _ _ _ _ (T388.setTop (mkF m 55 #[.val (.ref r0), .val (.int (1 : Int32)), .val (.ref b375), .val (.long ((0 : Int64) + m393)), .second, .val (.int (1 : Int32)), .val (.int (2 : Int32))] []))
     refine own_st (fun t_ => XS.aloadN (own_here Y389) hx rfl (hb hby own_d1_55) rfl rfl) ?_
     show own_Ends _ _ _ _ (T388.setTop (mkF m 56 #[.val (.ref r0), .val (.int (1 : Int32)), .val (.ref b375), .val (.long ((0 : Int64) + m393)), .second, .val (.int (1 : Int32)), .val (.int (2 : Int32))] [(.ref r0)]))
     refine own_st (fun t_ => XS.iload (own_here Y389) hx rfl (hb hby own_d1_56) rfl) ?_
     show own_Ends _ _ _ _ (T388.setTop (mkF m 58 #[.val (.ref r0), .val (.int (1 : Int32)), .val (.ref b375), .val (.long ((0 : Int64) + m393)), .second, .val (.int (1 : Int32)), .val (.int (2 : Int32))] [(.int (2 : Int32)), (.ref r0)]))
     refine own_ldI Y389 hx hZ f387 (i := 2) (by decide) (by decide) (Nat.le_of_ble_eq_true rfl) (v := (.int t2)) rfl rfl rfl (hb hby own_d1_58) ?_
     show own_Ends _ _ _ _ (T388.setTop (mkF m 59 #[.val (.ref r0), .val (.int (1 : Int32)), .val (.ref b375), .val (.long ((0 : Int64) + m393)), .second, .val (.int (1 : Int32)), .val (.int (2 : Int32))] [(.int t2)]))
     refine own_st (fun t_ => XS.ifYes (own_here Y389) hx rfl (pc0 := 59) (pc' := 93) rfl (hb hby own_d1_59) rfl (XT.i0_le_t c24_298) (by decide) (by decide)) ?_
     show own_Ends _ _ _ _ (T388.setTop (mkF m 93 #[.val (.ref r0), .val (.int (1 : Int32)), .val (.ref b375), .val (.long ((0 : Int64) + m393)), .second, .val (.int (1 : Int32)), .val (.int (2 : Int32))] []))
     refine own_st (fun t_ => XS.iinc (own_here Y389) hx rfl (hb hby own_d1_93) rfl (l' := #[.val (.ref r0), .val (.int (1 : Int32)), .val (.ref b375), .val (.long ((0 : Int64) + m393)), .second, .val (.int (1 : Int32)), .val (.int (3 : Int32))]) rfl) ?_
     show own_Ends _ _ _ _ (T388.setTop (mkF m 96 #[.val (.ref r0), .val (.int (1 : Int32)), .val (.ref b375), .val (.long ((0 : Int64) + m393)), .second, .val (.int (1 : Int32)), .val (.int (3 : Int32))] []))
     refine own_st (fun t_ => XS.goto (own_here Y389) hx rfl (pc0 := 96) (pc' := 48) rfl (hb hby own_d1_96) (by decide) (by decide)) ?_
     show own_Ends _ _ _ _ (T388.setTop (mkF m 48 #[.val (.ref r0), .val (.int (1 : Int32)), .val (.ref b375), .val (.long ((0 : Int64) + m393)), .second, .val (.int (1 : Int32)), .val (.int (3 : Int32))] []))
     refine own_st (fun t_ => XS.iload (own_here Y389) hx rfl (hb hby own_d1_48) rfl) ?_
     show own_Ends _ _ _ _ (T388.setTop (mkF m 50 #[.val (.ref r0), .val (.int (1 : Int32)), .val (.ref b375), .val (.long ((0 : Int64) + m393)), .second, .val (.int (1 : Int32)), .val (.int (3 : Int32))] [(.int (3 : Int32))]))
     refine own_st (fun t_ => XS.aloadN (own_here Y389) hx rfl (hb hby own_d1_50) rfl rfl) ?_
     show own_Ends _ _ _ _ (T388.setTop (mkF m 51 #[.val (.ref r0), .val (.int (1 : Int32)), .val (.ref b375), .val (.long ((0 : Int64) + m393)), .second, .val (.int (1 : Int32)), .val (.int (3 : Int32))] [(.ref r0), (.int (3 : Int32))]))
     refine own_len Y389 hx hZ f387 (z := (3 : Int32)) rfl rfl rfl (hb hby own_d1_51) ?_
     show own_Ends _ _ _ _ (T388.setTop (mkF m 52 #[.val (.ref r0), .val (.int (1 : Int32)), .val (.ref b375), .val (.long ((0 : Int64) + m393)), .second, .val (.int (1 : Int32)), .val (.int (3 : Int32))] [(.int (3 : Int32)), (.int (3 : Int32))]))
     refine own_st (fun t_ => XS.icmpYes (own_here Y389) hx rfl (pc0 := 52) (pc' := 99) rfl (hb hby own_d1_52) rfl (XT.ii_ge_t (by decide)) (by decide) (by decide)) ?_
     show own_Ends _ _ _ _ (T388.setTop (mkF m 99 #[.val (.ref r0), .val (.int (1 : Int32)), .val (.ref b375), .val (.long ((0 : Int64) + m393)), .second, .val (.int (1 : Int32)), .val (.int (3 : Int32))] []))
     refine own_new Y389 hx hZ hown (hw _ (List.mem_of_getElem? (i := 14) rfl)) (hw _ (List.mem_of_getElem? (i := 15) rfl)) (hw _ (List.mem_of_getElem? (i := 4) rfl)) rfl (hb hby own_d1_99) (by decide) (by decide) (fun T394 h396 b400 eb401 Y395 E397 X398 D399 => ?_)
     have ne402 : r0 ≠ b400 := Nat.ne_of_lt (by rw [eb401]; exact f387.lt)
     have ne403 : b375 ≠ b400 := Nat.ne_of_lt (by rw [eb401]; exact F386.lt)
     have z405 : n0 ≤ h372.size := Nat.le_trans Z0 E373.1
     have z406 : n0 ≤ h382.size := Nat.le_trans z405 K385.1
     have g404 : n0 ≤ b400 := by rw [eb401]; exact z406
     have F407 : Fld Z h396 b400 "com/example/poset/poset/core/Marking" "size" "I" (.int (0 : Int32)) := D399 _ _ _ .int (Or.inr (hw _ (List.mem_of_getElem? (i := 23) rfl))) (by decide)
     have F408 : Fld Z h396 b400 "com/example/poset/poset/core/Marking" "entries" "[J" .null := D399 _ _ _ (.array .long) (Or.inr (hw _ (List.mem_of_getElem? (i := 25) rfl))) (by decide)
     have F409 : Fld Z h396 b400 "com/example/poset/poset/core/Marking" "wide" "Z" (.int (0 : Int32)) := D399 _ _ _ .boolean (Or.inr (hw _ (List.mem_of_getElem? (i := 27) rfl))) (by decide)
     have F410 : Fld Z h396 b400 "com/example/poset/poset/core/Marking" "mixed" "J" (.long (0 : Int64)) := D399 _ _ _ .long (Or.inr (hw _ (List.mem_of_getElem? (i := 29) rfl))) (by decide)
     show own_Ends _ _ _ _ (T394.setTop (mkF m 102 #[.val (.ref r0), .val (.int (1 : Int32)), .val (.ref b375), .val (.long ((0 : Int64) + m393)), .second, .val (.int (1 : Int32)), .val (.int (3 : Int32))] [(.ref b400)]))
     refine own_st (fun t_ => XS.dup (own_here Y395) hx rfl (hb hby own_d1_102) rfl rfl) ?_
     show own_Ends _ _ _ _ (T394.setTop (mkF m 103 #[.val (.ref r0), .val (.int (1 : Int32)), .val (.ref b375), .val (.long ((0 : Int64) + m393)), .second, .val (.int (1 : Int32)), .val (.int (3 : Int32))] [(.ref b400), (.ref b400)]))
     refine own_st (fun t_ => XS.aloadN (own_here Y395) hx rfl (hb hby own_d1_103) rfl rfl) ?_
     show own_Ends _ _ _ _ (T394.setTop (mkF m 104 #[.val (.ref r0), .val (.int (1 : Int32)), .val (.ref b375), .val (.long ((0 : Int64) + m393)), .second, .val (.int (1 : Int32)), .val (.int (3 : Int32))] [(.ref r0), (.ref b400), (.ref b400)]))
     have f411 : own_A Z h396 r0 .int [(.int t0), (.int t1), (.int t2)] := f387.ext E397
     refine own_len Y395 hx hZ f411 (z := (3 : Int32)) rfl rfl rfl (hb hby own_d1_104) ?_
     show own_Ends _ _ _ _ (T394.setTop (mkF m 105 #[.val (.ref r0), .val (.int (1 : Int32)), .val (.ref b375), .val (.long ((0 : Int64) + m393)), .second, .val (.int (1 : Int32)), .val (.int (3 : Int32))] [(.int (3 : Int32)), (.ref b400), (.ref b400)]))
     refine own_st (fun t_ => XS.aloadN (own_here Y395) hx rfl (hb hby own_d1_105) rfl rfl) ?_
     show own_Ends _ _ _ _ (T394.setTop (mkF m 106 #[.val (.ref r0), .val (.int (1 : Int32)), .val (.ref b375), .val (.long ((0 : Int64) + m393)), .second, .val (.int (1 : Int32)), .val (.int (3 : Int32))] [(.ref b375), (.int (3 : Int32)), (.ref b400), (.ref b400)]))
     refine own_st (fun t_ => XS.iconst (own_here Y395) hx rfl (hb hby own_d1_106) ) ?_
     show own_Ends _ _ _ _ (T394.setTop (mkF m 107 #[.val (.ref r0), .val (.int (1 : Int32)), .val (.ref b375), .val (.long ((0 : Int64) + m393)), .second, .val (.int (1 : Int32)), .val (.int (3 : Int32))] [(.int (0 : Int32)), (.ref b375), (.int (3 : Int32)), (.ref b400), (.ref b400)]))
     refine own_st (fun t_ => XS.lloadN (own_here Y395) hx rfl (hb hby own_d1_107) rfl) ?_
     show own_Ends _ _ _ _ (T394.setTop (mkF m 108 #[.val (.ref r0), .val (.int (1 : Int32)), .val (.ref b375), .val (.long ((0 : Int64) + m393)), .second, .val (.int (1 : Int32)), .val (.int (3 : Int32))] [(.long ((0 : Int64) + m393)), (.int (0 : Int32)), (.ref b375), (.int (3 : Int32)), (.ref b400), (.ref b400)]))
     refine own_callN Y395 hx hZ (y := (⟨"com/example/poset/poset/core/Marking", "<init>", "(I[JZJ)V"⟩ : MethodName)) rfl hown (hw _ (List.mem_of_getElem? (i := 16) rfl)) (hw _ (List.mem_of_getElem? (i := 17) rfl)) (hw _ (List.mem_of_getElem? (i := 4) rfl)) (hw _ (List.mem_of_getElem? (i := 18) rfl)) (by decide) (a := b400) (argsL := [(.int (3 : Int32)), (.ref b375), (.int (0 : Int32)), (.long ((0 : Int64) + m393))]) (rest := [(.ref b400)]) (own_rm4 l Z a0 hw [] b400 (3 : Int32) b375 ((0 : Int64) + m393)  h396 n0  X398 F407 F408 F409 F410 g404) (W := 1) (by decide) (by decide) (by decide) (by decide) rfl (by rw [hml]; rfl) (lenOf own_pd7 rfl) rfl (by show 2 * 0 + _ ≤ _; exact Nat.le_of_eq rfl) (hb hby own_d1_108) (fun T412 h414 v415 Y413 q416 => ?_)
     obtain ⟨rfl, K417, F418, F419, F420⟩ := q416
     show own_Ends _ _ _ _ (T412.setTop (mkF m 111 #[.val (.ref r0), .val (.int (1 : Int32)), .val (.ref b375), .val (.long ((0 : Int64) + m393)), .second, .val (.int (1 : Int32)), .val (.int (3 : Int32))] [(.ref b400)]))
     have z421 : n0 ≤ h396.size := Nat.le_trans z406 E397.1
     have z422 : n0 ≤ h414.size := Nat.le_trans z421 K417.1
     have f423 : own_A Z h396 b375 .long [(.long (own_E (0 : Int32) t0))] := F386.ext E397
     have f424 : own_A Z h414 b375 .long [(.long (own_E (0 : Int32) t0))] := f423.keep K417 (ninS ne403 nin0)
     have hes : own_es t0 t1 t2 = [(own_E (0 : Int32) t0)] := by simp [own_es, c24_138, c24_139, c24_298]
     have f425 : Exa Z h414 b400 "com/example/poset/poset/core/Marking" := X398.keep K417
     refine own_retA Y413 hx hlk hret rfl rfl rfl (hb hby own_d1_111) (by decide) (by decide) ?_
     exact ⟨_, _, rfl, z422, f425, F418, F419, F420, by rw [hes]; exact f424⟩
  ·
   refine own_st (fun t_ => XS.ifYes (own_here Y0) hx rfl (pc0 := 24) (pc' := 30) rfl (hb hby own_d1_24) rfl (XT.i0_le_t c24_138) (by decide) (by decide)) ?_
   show own_Ends _ _ _ _ (T0.setTop (mkF m 30 #[.val (.ref r0), .val (.int (0 : Int32)), .val (.ref r0), .val (.int (3 : Int32)), .val (.int (0 : Int32)), .val (.int t0), .unset] []))
   refine own_st (fun t_ => XS.iinc (own_here Y0) hx rfl (hb hby own_d1_30) rfl (l' := #[.val (.ref r0), .val (.int (0 : Int32)), .val (.ref r0), .val (.int (3 : Int32)), .val (.int (1 : Int32)), .val (.int t0), .unset]) rfl) ?_
   show own_Ends _ _ _ _ (T0.setTop (mkF m 33 #[.val (.ref r0), .val (.int (0 : Int32)), .val (.ref r0), .val (.int (3 : Int32)), .val (.int (1 : Int32)), .val (.int t0), .unset] []))
   refine own_st (fun t_ => XS.goto (own_here Y0) hx rfl (pc0 := 33) (pc' := 10) rfl (hb hby own_d1_33) (by decide) (by decide)) ?_
   show own_Ends _ _ _ _ (T0.setTop (mkF m 10 #[.val (.ref r0), .val (.int (0 : Int32)), .val (.ref r0), .val (.int (3 : Int32)), .val (.int (1 : Int32)), .val (.int t0), .unset] []))
   refine own_st (fun t_ => XS.iload (own_here Y0) hx rfl (hb hby own_d1_10) rfl) ?_
   show own_Ends _ _ _ _ (T0.setTop (mkF m 12 #[.val (.ref r0), .val (.int (0 : Int32)), .val (.ref r0), .val (.int (3 : Int32)), .val (.int (1 : Int32)), .val (.int t0), .unset] [(.int (1 : Int32))]))
   refine own_st (fun t_ => XS.iloadN (own_here Y0) hx rfl (hb hby own_d1_12) rfl) ?_
   show own_Ends _ _ _ _ (T0.setTop (mkF m 13 #[.val (.ref r0), .val (.int (0 : Int32)), .val (.ref r0), .val (.int (3 : Int32)), .val (.int (1 : Int32)), .val (.int t0), .unset] [(.int (3 : Int32)), (.int (1 : Int32))]))
   refine own_st (fun t_ => XS.icmpNo (own_here Y0) hx rfl (hb hby own_d1_13) rfl (XT.ii_ge_f (by decide))) ?_
   show own_Ends _ _ _ _ (T0.setTop (mkF m 16 #[.val (.ref r0), .val (.int (0 : Int32)), .val (.ref r0), .val (.int (3 : Int32)), .val (.int (1 : Int32)), .val (.int t0), .unset] []))
   refine own_st (fun t_ => XS.aloadN (own_here Y0) hx rfl (hb hby own_d1_16) rfl rfl) ?_
   show own_Ends _ _ _ _ (T0.setTop (mkF m 17 #[.val (.ref r0), .val (.int (0 : Int32)), .val (.ref r0), .val (.int (3 : Int32)), .val (.int (1 : Int32)), .val (.int t0), .unset] [(.ref r0)]))
   refine own_st (fun t_ => XS.iload (own_here Y0) hx rfl (hb hby own_d1_17) rfl) ?_
   show own_Ends _ _ _ _ (T0.setTop (mkF m 19 #[.val (.ref r0), .val (.int (0 : Int32)), .val (.ref r0), .val (.int (3 : Int32)), .val (.int (1 : Int32)), .val (.int t0), .unset] [(.int (1 : Int32)), (.ref r0)]))
   refine own_ldI Y0 hx hZ A (i := 1) (by decide) (by decide) (Nat.le_of_ble_eq_true rfl) (v := (.int t1)) rfl rfl rfl (hb hby own_d1_19) ?_
   show own_Ends _ _ _ _ (T0.setTop (mkF m 20 #[.val (.ref r0), .val (.int (0 : Int32)), .val (.ref r0), .val (.int (3 : Int32)), .val (.int (1 : Int32)), .val (.int t0), .unset] [(.int t1)]))
   refine own_st (fun t_ => XS.istore (own_here Y0) hx rfl (hb hby own_d1_20) rfl (l' := #[.val (.ref r0), .val (.int (0 : Int32)), .val (.ref r0), .val (.int (3 : Int32)), .val (.int (1 : Int32)), .val (.int t1), .unset]) rfl) ?_
   show own_Ends _ _ _ _ (T0.setTop (mkF m 22 #[.val (.ref r0), .val (.int (0 : Int32)), .val (.ref r0), .val (.int (3 : Int32)), .val (.int (1 : Int32)), .val (.int t1), .unset] []))
   refine own_st (fun t_ => XS.iload (own_here Y0) hx rfl (hb hby own_d1_22) rfl) ?_
   show own_Ends _ _ _ _ (T0.setTop (mkF m 24 #[.val (.ref r0), .val (.int (0 : Int32)), .val (.ref r0), .val (.int (3 : Int32)), .val (.int (1 : Int32)), .val (.int t1), .unset] [(.int t1)]))
   by_cases c24_426 : (0 : Int32) < t1
   ·
    refine own_st (fun t_ => XS.ifNo (own_here Y0) hx rfl (hb hby own_d1_24) rfl (XT.i0_le_f c24_426)) ?_
    show own_Ends _ _ _ _ (T0.setTop (mkF m 27 #[.val (.ref r0), .val (.int (0 : Int32)), .val (.ref r0), .val (.int (3 : Int32)), .val (.int (1 : Int32)), .val (.int t1), .unset] []))
    refine own_st (fun t_ => XS.iinc (own_here Y0) hx rfl (hb hby own_d1_27) rfl (l' := #[.val (.ref r0), .val (.int (1 : Int32)), .val (.ref r0), .val (.int (3 : Int32)), .val (.int (1 : Int32)), .val (.int t1), .unset]) rfl) ?_
    show own_Ends _ _ _ _ (T0.setTop (mkF m 30 #[.val (.ref r0), .val (.int (1 : Int32)), .val (.ref r0), .val (.int (3 : Int32)), .val (.int (1 : Int32)), .val (.int t1), .unset] []))
    refine own_st (fun t_ => XS.iinc (own_here Y0) hx rfl (hb hby own_d1_30) rfl (l' := #[.val (.ref r0), .val (.int (1 : Int32)), .val (.ref r0), .val (.int (3 : Int32)), .val (.int (2 : Int32)), .val (.int t1), .unset]) rfl) ?_
    show own_Ends _ _ _ _ (T0.setTop (mkF m 33 #[.val (.ref r0), .val (.int (1 : Int32)), .val (.ref r0), .val (.int (3 : Int32)), .val (.int (2 : Int32)), .val (.int t1), .unset] []))
    refine own_st (fun t_ => XS.goto (own_here Y0) hx rfl (pc0 := 33) (pc' := 10) rfl (hb hby own_d1_33) (by decide) (by decide)) ?_
    show own_Ends _ _ _ _ (T0.setTop (mkF m 10 #[.val (.ref r0), .val (.int (1 : Int32)), .val (.ref r0), .val (.int (3 : Int32)), .val (.int (2 : Int32)), .val (.int t1), .unset] []))
    refine own_st (fun t_ => XS.iload (own_here Y0) hx rfl (hb hby own_d1_10) rfl) ?_
    show own_Ends _ _ _ _ (T0.setTop (mkF m 12 #[.val (.ref r0), .val (.int (1 : Int32)), .val (.ref r0), .val (.int (3 : Int32)), .val (.int (2 : Int32)), .val (.int t1), .unset] [(.int (2 : Int32))]))
    refine own_st (fun t_ => XS.iloadN (own_here Y0) hx rfl (hb hby own_d1_12) rfl) ?_
    show own_Ends _ _ _ _ (T0.setTop (mkF m 13 #[.val (.ref r0), .val (.int (1 : Int32)), .val (.ref r0), .val (.int (3 : Int32)), .val (.int (2 : Int32)), .val (.int t1), .unset] [(.int (3 : Int32)), (.int (2 : Int32))]))
    refine own_st (fun t_ => XS.icmpNo (own_here Y0) hx rfl (hb hby own_d1_13) rfl (XT.ii_ge_f (by decide))) ?_
    show own_Ends _ _ _ _ (T0.setTop (mkF m 16 #[.val (.ref r0), .val (.int (1 : Int32)), .val (.ref r0), .val (.int (3 : Int32)), .val (.int (2 : Int32)), .val (.int t1), .unset] []))
    refine own_st (fun t_ => XS.aloadN (own_here Y0) hx rfl (hb hby own_d1_16) rfl rfl) ?_
    show own_Ends _ _ _ _ (T0.setTop (mkF m 17 #[.val (.ref r0), .val (.int (1 : Int32)), .val (.ref r0), .val (.int (3 : Int32)), .val (.int (2 : Int32)), .val (.int t1), .unset] [(.ref r0)]))
    refine own_st (fun t_ => XS.iload (own_here Y0) hx rfl (hb hby own_d1_17) rfl) ?_
    show own_Ends _ _ _ _ (T0.setTop (mkF m 19 #[.val (.ref r0), .val (.int (1 : Int32)), .val (.ref r0), .val (.int (3 : Int32)), .val (.int (2 : Int32)), .val (.int t1), .unset] [(.int (2 : Int32)), (.ref r0)]))
    refine own_ldI Y0 hx hZ A (i := 2) (by decide) (by decide) (Nat.le_of_ble_eq_true rfl) (v := (.int t2)) rfl rfl rfl (hb hby own_d1_19) ?_
    show own_Ends _ _ _ _ (T0.setTop (mkF m 20 #[.val (.ref r0), .val (.int (1 : Int32)), .val (.ref r0), .val (.int (3 : Int32)), .val (.int (2 : Int32)), .val (.int t1), .unset] [(.int t2)]))
    refine own_st (fun t_ => XS.istore (own_here Y0) hx rfl (hb hby own_d1_20) rfl (l' := #[.val (.ref r0), .val (.int (1 : Int32)), .val (.ref r0), .val (.int (3 : Int32)), .val (.int (2 : Int32)), .val (.int t2), .unset]) rfl) ?_
    show own_Ends _ _ _ _ (T0.setTop (mkF m 22 #[.val (.ref r0), .val (.int (1 : Int32)), .val (.ref r0), .val (.int (3 : Int32)), .val (.int (2 : Int32)), .val (.int t2), .unset] []))
    refine own_st (fun t_ => XS.iload (own_here Y0) hx rfl (hb hby own_d1_22) rfl) ?_
    show own_Ends _ _ _ _ (T0.setTop (mkF m 24 #[.val (.ref r0), .val (.int (1 : Int32)), .val (.ref r0), .val (.int (3 : Int32)), .val (.int (2 : Int32)), .val (.int t2), .unset] [(.int t2)]))
    by_cases c24_427 : (0 : Int32) < t2
    ·
     refine own_st (fun t_ => XS.ifNo (own_here Y0) hx rfl (hb hby own_d1_24) rfl (XT.i0_le_f c24_427)) ?_
     show own_Ends _ _ _ _ (T0.setTop (mkF m 27 #[.val (.ref r0), .val (.int (1 : Int32)), .val (.ref r0), .val (.int (3 : Int32)), .val (.int (2 : Int32)), .val (.int t2), .unset] []))
     refine own_st (fun t_ => XS.iinc (own_here Y0) hx rfl (hb hby own_d1_27) rfl (l' := #[.val (.ref r0), .val (.int (2 : Int32)), .val (.ref r0), .val (.int (3 : Int32)), .val (.int (2 : Int32)), .val (.int t2), .unset]) rfl) ?_
     show own_Ends _ _ _ _ (T0.setTop (mkF m 30 #[.val (.ref r0), .val (.int (2 : Int32)), .val (.ref r0), .val (.int (3 : Int32)), .val (.int (2 : Int32)), .val (.int t2), .unset] []))
     refine own_st (fun t_ => XS.iinc (own_here Y0) hx rfl (hb hby own_d1_30) rfl (l' := #[.val (.ref r0), .val (.int (2 : Int32)), .val (.ref r0), .val (.int (3 : Int32)), .val (.int (3 : Int32)), .val (.int t2), .unset]) rfl) ?_
     show own_Ends _ _ _ _ (T0.setTop (mkF m 33 #[.val (.ref r0), .val (.int (2 : Int32)), .val (.ref r0), .val (.int (3 : Int32)), .val (.int (3 : Int32)), .val (.int t2), .unset] []))
     refine own_st (fun t_ => XS.goto (own_here Y0) hx rfl (pc0 := 33) (pc' := 10) rfl (hb hby own_d1_33) (by decide) (by decide)) ?_
     show own_Ends _ _ _ _ (T0.setTop (mkF m 10 #[.val (.ref r0), .val (.int (2 : Int32)), .val (.ref r0), .val (.int (3 : Int32)), .val (.int (3 : Int32)), .val (.int t2), .unset] []))
     refine own_st (fun t_ => XS.iload (own_here Y0) hx rfl (hb hby own_d1_10) rfl) ?_
     show own_Ends _ _ _ _ (T0.setTop (mkF m 12 #[.val (.ref r0), .val (.int (2 : Int32)), .val (.ref r0), .val (.int (3 : Int32)), .val (.int (3 : Int32)), .val (.int t2), .unset] [(.int (3 : Int32))]))
     refine own_st (fun t_ => XS.iloadN (own_here Y0) hx rfl (hb hby own_d1_12) rfl) ?_
     show own_Ends _ _ _ _ (T0.setTop (mkF m 13 #[.val (.ref r0), .val (.int (2 : Int32)), .val (.ref r0), .val (.int (3 : Int32)), .val (.int (3 : Int32)), .val (.int t2), .unset] [(.int (3 : Int32)), (.int (3 : Int32))]))
     refine own_st (fun t_ => XS.icmpYes (own_here Y0) hx rfl (pc0 := 13) (pc' := 36) rfl (hb hby own_d1_13) rfl (XT.ii_ge_t (by decide)) (by decide) (by decide)) ?_
     show own_Ends _ _ _ _ (T0.setTop (mkF m 36 #[.val (.ref r0), .val (.int (2 : Int32)), .val (.ref r0), .val (.int (3 : Int32)), .val (.int (3 : Int32)), .val (.int t2), .unset] []))
     refine own_st (fun t_ => XS.iloadN (own_here Y0) hx rfl (hb hby own_d1_36) rfl) ?_
     show own_Ends _ _ _ _ (T0.setTop (mkF m 37 #[.val (.ref r0), .val (.int (2 : Int32)), .val (.ref r0), .val (.int (3 : Int32)), .val (.int (3 : Int32)), .val (.int t2), .unset] [(.int (2 : Int32))]))
     refine own_newP Y0 hx hZ (hw _ (List.mem_of_getElem? (i := 6) rfl)) rfl (hb hby own_d1_37) rfl (by decide) (nz := 2) (cap := 2) (by decide) (by decide) (by decide) (by decide) (by decide) (ty := .long) rfl (fun T428 h430 b433 eb434 Y429 E431 A432 => ?_)
     have ne435 : r0 ≠ b433 := Nat.ne_of_lt (by rw [eb434]; exact A.lt)
     have g436 : n0 ≤ b433 := by rw [eb434]; exact Z0
     replace A432 : own_A Z h430 b433 .long [(.long (0 : Int64)), (.long (0 : Int64))] := A432
     show own_Ends _ _ _ _ (T428.setTop (mkF m 39 #[.val (.ref r0), .val (.int (2 : Int32)), .val (.ref r0), .val (.int (3 : Int32)), .val (.int (3 : Int32)), .val (.int t2), .unset] [(.ref b433)]))
     refine own_st (fun t_ => XS.astoreN (own_here Y429) hx rfl (hb hby own_d1_39) rfl rfl (l' := #[.val (.ref r0), .val (.int (2 : Int32)), .val (.ref b433), .val (.int (3 : Int32)), .val (.int (3 : Int32)), .val (.int t2), .unset]) rfl) ?_
     show own_Ends _ _ _ _ (T428.setTop (mkF m 40 #[.val (.ref r0), .val (.int (2 : Int32)), .val (.ref b433), .val (.int (3 : Int32)), .val (.int (3 : Int32)), .val (.int t2), .unset] []))
     refine own_st (fun t_ => XS.lconst (own_here Y429) hx rfl (hb hby own_d1_40) ) ?_
     show own_Ends _ _ _ _ (T428.setTop (mkF m 41 #[.val (.ref r0), .val (.int (2 : Int32)), .val (.ref b433), .val (.int (3 : Int32)), .val (.int (3 : Int32)), .val (.int t2), .unset] [(.long (0 : Int64))]))
     refine own_st (fun t_ => XS.lstoreN (own_here Y429) hx rfl (hb hby own_d1_41) rfl (l' := #[.val (.ref r0), .val (.int (2 : Int32)), .val (.ref b433), .val (.long (0 : Int64)), .second, .val (.int t2), .unset]) rfl) ?_
     show own_Ends _ _ _ _ (T428.setTop (mkF m 42 #[.val (.ref r0), .val (.int (2 : Int32)), .val (.ref b433), .val (.long (0 : Int64)), .second, .val (.int t2), .unset] []))
     refine own_st (fun t_ => XS.iconst (own_here Y429) hx rfl (hb hby own_d1_42) ) ?_
     show own_Ends _ _ _ _ (T428.setTop (mkF m 43 #[.val (.ref r0), .val (.int (2 : Int32)), .val (.ref b433), .val (.long (0 : Int64)), .second, .val (.int t2), .unset] [(.int (0 : Int32))]))
     refine own_st (fun t_ => XS.istore (own_here Y429) hx rfl (hb hby own_d1_43) rfl (l' := #[.val (.ref r0), .val (.int (2 : Int32)), .val (.ref b433), .val (.long (0 : Int64)), .second, .val (.int (0 : Int32)), .unset]) rfl) ?_
     show own_Ends _ _ _ _ (T428.setTop (mkF m 45 #[.val (.ref r0), .val (.int (2 : Int32)), .val (.ref b433), .val (.long (0 : Int64)), .second, .val (.int (0 : Int32)), .unset] []))
     refine own_st (fun t_ => XS.iconst (own_here Y429) hx rfl (hb hby own_d1_45) ) ?_
     show own_Ends _ _ _ _ (T428.setTop (mkF m 46 #[.val (.ref r0), .val (.int (2 : Int32)), .val (.ref b433), .val (.long (0 : Int64)), .second, .val (.int (0 : Int32)), .unset] [(.int (0 : Int32))]))
     refine own_st (fun t_ => XS.istore (own_here Y429) hx rfl (hb hby own_d1_46) rfl (l' := #[.val (.ref r0), .val (.int (2 : Int32)), .val (.ref b433), .val (.long (0 : Int64)), .second, .val (.int (0 : Int32)), .val (.int (0 : Int32))]) rfl) ?_
     show own_Ends _ _ _ _ (T428.setTop (mkF m 48 #[.val (.ref r0), .val (.int (2 : Int32)), .val (.ref b433), .val (.long (0 : Int64)), .second, .val (.int (0 : Int32)), .val (.int (0 : Int32))] []))
     refine own_st (fun t_ => XS.iload (own_here Y429) hx rfl (hb hby own_d1_48) rfl) ?_
     show own_Ends _ _ _ _ (T428.setTop (mkF m 50 #[.val (.ref r0), .val (.int (2 : Int32)), .val (.ref b433), .val (.long (0 : Int64)), .second, .val (.int (0 : Int32)), .val (.int (0 : Int32))] [(.int (0 : Int32))]))
     refine own_st (fun t_ => XS.aloadN (own_here Y429) hx rfl (hb hby own_d1_50) rfl rfl) ?_
     show own_Ends _ _ _ _ (T428.setTop (mkF m 51 #[.val (.ref r0), .val (.int (2 : Int32)), .val (.ref b433), .val (.long (0 : Int64)), .second, .val (.int (0 : Int32)), .val (.int (0 : Int32))] [(.ref r0), (.int (0 : Int32))]))
     have f437 : own_A Z h430 r0 .int [(.int t0), (.int t1), (.int t2)] := A.ext E431
     refine own_len Y429 hx hZ f437 (z := (3 : Int32)) rfl rfl rfl (hb hby own_d1_51) ?_
     show own_Ends _ _ _ _ (T428.setTop (mkF m 52 #[.val (.ref r0), .val (.int (2 : Int32)), .val (.ref b433), .val (.long (0 : Int64)), .second, .val (.int (0 : Int32)), .val (.int (0 : Int32))] [(.int (3 : Int32)), (.int (0 : Int32))]))
     refine own_st (fun t_ => XS.icmpNo (own_here Y429) hx rfl (hb hby own_d1_52) rfl (XT.ii_ge_f (by decide))) ?_
     show own_Ends _ _ _ _ (T428.setTop (mkF m 55 #[.val (.ref r0), .val (.int (2 : Int32)), .val (.ref b433), .val (.long (0 : Int64)), .second, .val (.int (0 : Int32)), .val (.int (0 : Int32))] []))
     refine own_st (fun t_ => XS.aloadN (own_here Y429) hx rfl (hb hby own_d1_55) rfl rfl) ?_
     show own_Ends _ _ _ _ (T428.setTop (mkF m 56 #[.val (.ref r0), .val (.int (2 : Int32)), .val (.ref b433), .val (.long (0 : Int64)), .second, .val (.int (0 : Int32)), .val (.int (0 : Int32))] [(.ref r0)]))
     refine own_st (fun t_ => XS.iload (own_here Y429) hx rfl (hb hby own_d1_56) rfl) ?_
     show own_Ends _ _ _ _ (T428.setTop (mkF m 58 #[.val (.ref r0), .val (.int (2 : Int32)), .val (.ref b433), .val (.long (0 : Int64)), .second, .val (.int (0 : Int32)), .val (.int (0 : Int32))] [(.int (0 : Int32)), (.ref r0)]))
     refine own_ldI Y429 hx hZ f437 (i := 0) (by decide) (by decide) (Nat.le_of_ble_eq_true rfl) (v := (.int t0)) rfl rfl rfl (hb hby own_d1_58) ?_
     show own_Ends _ _ _ _ (T428.setTop (mkF m 59 #[.val (.ref r0), .val (.int (2 : Int32)), .val (.ref b433), .val (.long (0 : Int64)), .second, .val (.int (0 : Int32)), .val (.int (0 : Int32))] [(.int t0)]))
     refine own_st (fun t_ => XS.ifYes (own_here Y429) hx rfl (pc0 := 59) (pc' := 93) rfl (hb hby own_d1_59) rfl (XT.i0_le_t c24_138) (by decide) (by decide)) ?_
     show own_Ends _ _ _ _ (T428.setTop (mkF m 93 #[.val (.ref r0), .val (.int (2 : Int32)), .val (.ref b433), .val (.long (0 : Int64)), .second, .val (.int (0 : Int32)), .val (.int (0 : Int32))] []))
     refine own_st (fun t_ => XS.iinc (own_here Y429) hx rfl (hb hby own_d1_93) rfl (l' := #[.val (.ref r0), .val (.int (2 : Int32)), .val (.ref b433), .val (.long (0 : Int64)), .second, .val (.int (0 : Int32)), .val (.int (1 : Int32))]) rfl) ?_
     show own_Ends _ _ _ _ (T428.setTop (mkF m 96 #[.val (.ref r0), .val (.int (2 : Int32)), .val (.ref b433), .val (.long (0 : Int64)), .second, .val (.int (0 : Int32)), .val (.int (1 : Int32))] []))
     refine own_st (fun t_ => XS.goto (own_here Y429) hx rfl (pc0 := 96) (pc' := 48) rfl (hb hby own_d1_96) (by decide) (by decide)) ?_
     show own_Ends _ _ _ _ (T428.setTop (mkF m 48 #[.val (.ref r0), .val (.int (2 : Int32)), .val (.ref b433), .val (.long (0 : Int64)), .second, .val (.int (0 : Int32)), .val (.int (1 : Int32))] []))
     refine own_st (fun t_ => XS.iload (own_here Y429) hx rfl (hb hby own_d1_48) rfl) ?_
     show own_Ends _ _ _ _ (T428.setTop (mkF m 50 #[.val (.ref r0), .val (.int (2 : Int32)), .val (.ref b433), .val (.long (0 : Int64)), .second, .val (.int (0 : Int32)), .val (.int (1 : Int32))] [(.int (1 : Int32))]))
     refine own_st (fun t_ => XS.aloadN (own_here Y429) hx rfl (hb hby own_d1_50) rfl rfl) ?_
     show own_Ends _ _ _ _ (T428.setTop (mkF m 51 #[.val (.ref r0), .val (.int (2 : Int32)), .val (.ref b433), .val (.long (0 : Int64)), .second, .val (.int (0 : Int32)), .val (.int (1 : Int32))] [(.ref r0), (.int (1 : Int32))]))
     refine own_len Y429 hx hZ f437 (z := (3 : Int32)) rfl rfl rfl (hb hby own_d1_51) ?_
     show own_Ends _ _ _ _ (T428.setTop (mkF m 52 #[.val (.ref r0), .val (.int (2 : Int32)), .val (.ref b433), .val (.long (0 : Int64)), .second, .val (.int (0 : Int32)), .val (.int (1 : Int32))] [(.int (3 : Int32)), (.int (1 : Int32))]))
     refine own_st (fun t_ => XS.icmpNo (own_here Y429) hx rfl (hb hby own_d1_52) rfl (XT.ii_ge_f (by decide))) ?_
     show own_Ends _ _ _ _ (T428.setTop (mkF m 55 #[.val (.ref r0), .val (.int (2 : Int32)), .val (.ref b433), .val (.long (0 : Int64)), .second, .val (.int (0 : Int32)), .val (.int (1 : Int32))] []))
     refine own_st (fun t_ => XS.aloadN (own_here Y429) hx rfl (hb hby own_d1_55) rfl rfl) ?_
     show own_Ends _ _ _ _ (T428.setTop (mkF m 56 #[.val (.ref r0), .val (.int (2 : Int32)), .val (.ref b433), .val (.long (0 : Int64)), .second, .val (.int (0 : Int32)), .val (.int (1 : Int32))] [(.ref r0)]))
     refine own_st (fun t_ => XS.iload (own_here Y429) hx rfl (hb hby own_d1_56) rfl) ?_
     show own_Ends _ _ _ _ (T428.setTop (mkF m 58 #[.val (.ref r0), .val (.int (2 : Int32)), .val (.ref b433), .val (.long (0 : Int64)), .second, .val (.int (0 : Int32)), .val (.int (1 : Int32))] [(.int (1 : Int32)), (.ref r0)]))
     refine own_ldI Y429 hx hZ f437 (i := 1) (by decide) (by decide) (Nat.le_of_ble_eq_true rfl) (v := (.int t1)) rfl rfl rfl (hb hby own_d1_58) ?_
     show own_Ends _ _ _ _ (T428.setTop (mkF m 59 #[.val (.ref r0), .val (.int (2 : Int32)), .val (.ref b433), .val (.long (0 : Int64)), .second, .val (.int (0 : Int32)), .val (.int (1 : Int32))] [(.int t1)]))
     refine own_st (fun t_ => XS.ifNo (own_here Y429) hx rfl (hb hby own_d1_59) rfl (XT.i0_le_f c24_426)) ?_
     show own_Ends _ _ _ _ (T428.setTop (mkF m 62 #[.val (.ref r0), .val (.int (2 : Int32)), .val (.ref b433), .val (.long (0 : Int64)), .second, .val (.int (0 : Int32)), .val (.int (1 : Int32))] []))
     refine own_st (fun t_ => XS.aloadN (own_here Y429) hx rfl (hb hby own_d1_62) rfl rfl) ?_
     show own_Ends _ _ _ _ (T428.setTop (mkF m 63 #[.val (.ref r0), .val (.int (2 : Int32)), .val (.ref b433), .val (.long (0 : Int64)), .second, .val (.int (0 : Int32)), .val (.int (1 : Int32))] [(.ref b433)]))
     refine own_st (fun t_ => XS.iconst (own_here Y429) hx rfl (hb hby own_d1_63) ) ?_
     show own_Ends _ _ _ _ (T428.setTop (mkF m 64 #[.val (.ref r0), .val (.int (2 : Int32)), .val (.ref b433), .val (.long (0 : Int64)), .second, .val (.int (0 : Int32)), .val (.int (1 : Int32))] [(.int (0 : Int32)), (.ref b433)]))
     refine own_st (fun t_ => XS.iload (own_here Y429) hx rfl (hb hby own_d1_64) rfl) ?_
     show own_Ends _ _ _ _ (T428.setTop (mkF m 66 #[.val (.ref r0), .val (.int (2 : Int32)), .val (.ref b433), .val (.long (0 : Int64)), .second, .val (.int (0 : Int32)), .val (.int (1 : Int32))] [(.int (0 : Int32)), (.int (0 : Int32)), (.ref b433)]))
     refine own_st (fun t_ => XS.iinc (own_here Y429) hx rfl (hb hby own_d1_66) rfl (l' := #[.val (.ref r0), .val (.int (2 : Int32)), .val (.ref b433), .val (.long (0 : Int64)), .second, .val (.int (1 : Int32)), .val (.int (1 : Int32))]) rfl) ?_
     show own_Ends _ _ _ _ (T428.setTop (mkF m 69 #[.val (.ref r0), .val (.int (2 : Int32)), .val (.ref b433), .val (.long (0 : Int64)), .second, .val (.int (1 : Int32)), .val (.int (1 : Int32))] [(.int (0 : Int32)), (.int (0 : Int32)), (.ref b433)]))
     refine own_st (fun t_ => XS.iload (own_here Y429) hx rfl (hb hby own_d1_69) rfl) ?_
     show own_Ends _ _ _ _ (T428.setTop (mkF m 71 #[.val (.ref r0), .val (.int (2 : Int32)), .val (.ref b433), .val (.long (0 : Int64)), .second, .val (.int (1 : Int32)), .val (.int (1 : Int32))] [(.int (1 : Int32)), (.int (0 : Int32)), (.int (0 : Int32)), (.ref b433)]))
     refine own_st (fun t_ => XS.aloadN (own_here Y429) hx rfl (hb hby own_d1_71) rfl rfl) ?_
     show own_Ends _ _ _ _ (T428.setTop (mkF m 72 #[.val (.ref r0), .val (.int (2 : Int32)), .val (.ref b433), .val (.long (0 : Int64)), .second, .val (.int (1 : Int32)), .val (.int (1 : Int32))] [(.ref r0), (.int (1 : Int32)), (.int (0 : Int32)), (.int (0 : Int32)), (.ref b433)]))
     refine own_st (fun t_ => XS.iload (own_here Y429) hx rfl (hb hby own_d1_72) rfl) ?_
     show own_Ends _ _ _ _ (T428.setTop (mkF m 74 #[.val (.ref r0), .val (.int (2 : Int32)), .val (.ref b433), .val (.long (0 : Int64)), .second, .val (.int (1 : Int32)), .val (.int (1 : Int32))] [(.int (1 : Int32)), (.ref r0), (.int (1 : Int32)), (.int (0 : Int32)), (.int (0 : Int32)), (.ref b433)]))
     refine own_ldI Y429 hx hZ f437 (i := 1) (by decide) (by decide) (Nat.le_of_ble_eq_true rfl) (v := (.int t1)) rfl rfl rfl (hb hby own_d1_74) ?_
     show own_Ends _ _ _ _ (T428.setTop (mkF m 75 #[.val (.ref r0), .val (.int (2 : Int32)), .val (.ref b433), .val (.long (0 : Int64)), .second, .val (.int (1 : Int32)), .val (.int (1 : Int32))] [(.int t1), (.int (1 : Int32)), (.int (0 : Int32)), (.int (0 : Int32)), (.ref b433)]))
     refine own_st (fun t_ => XS.i2l (own_here Y429) hx rfl (hb hby own_d1_75) rfl) ?_
     show own_Ends _ _ _ _ (T428.setTop (mkF m 76 #[.val (.ref r0), .val (.int (2 : Int32)), .val (.ref b433), .val (.long (0 : Int64)), .second, .val (.int (1 : Int32)), .val (.int (1 : Int32))] [(.long (t1.toInt64)), (.int (1 : Int32)), (.int (0 : Int32)), (.int (0 : Int32)), (.ref b433)]))
     refine own_callS Y429 hx hZ (y := (⟨"com/example/poset/poset/core/Marking", "put", "([JZIIJ)V"⟩ : MethodName)) hown (hw _ (List.mem_of_getElem? (i := 7) rfl)) (hw _ (List.mem_of_getElem? (i := 8) rfl)) (hw _ (List.mem_of_getElem? (i := 4) rfl)) (hw _ (List.mem_of_getElem? (i := 9) rfl)) (by decide) (argsL := [(.ref b433), (.int (0 : Int32)), (.int (0 : Int32)), (.int (1 : Int32)), (.long (t1.toInt64))]) (rest := []) (own_rm2_2_0 l Z a0 hw [] b433 (1 : Int32) (t1.toInt64) (0 : Int64) (0 : Int64) t1 h430 n0  A432 g436 rfl) (W := 0) (by decide) (by decide) (by decide) (by decide) rfl (by rw [hml]; rfl) (lenOf own_pd5 rfl) rfl (by show 2 * 0 + _ ≤ _; exact Nat.le_of_eq rfl) (hb hby own_d1_76) (fun T438 h440 v441 Y439 q442 => ?_)
     obtain ⟨rfl, K443, F444⟩ := q442
     show own_Ends _ _ _ _ (T438.setTop (mkF m 79 #[.val (.ref r0), .val (.int (2 : Int32)), .val (.ref b433), .val (.long (0 : Int64)), .second, .val (.int (1 : Int32)), .val (.int (1 : Int32))] []))
     refine own_st (fun t_ => XS.lloadN (own_here Y439) hx rfl (hb hby own_d1_79) rfl) ?_
     show own_Ends _ _ _ _ (T438.setTop (mkF m 80 #[.val (.ref r0), .val (.int (2 : Int32)), .val (.ref b433), .val (.long (0 : Int64)), .second, .val (.int (1 : Int32)), .val (.int (1 : Int32))] [(.long (0 : Int64))]))
     refine own_st (fun t_ => XS.iload (own_here Y439) hx rfl (hb hby own_d1_80) rfl) ?_
     show own_Ends _ _ _ _ (T438.setTop (mkF m 82 #[.val (.ref r0), .val (.int (2 : Int32)), .val (.ref b433), .val (.long (0 : Int64)), .second, .val (.int (1 : Int32)), .val (.int (1 : Int32))] [(.int (1 : Int32)), (.long (0 : Int64))]))
     refine own_st (fun t_ => XS.i2l (own_here Y439) hx rfl (hb hby own_d1_82) rfl) ?_
     show own_Ends _ _ _ _ (T438.setTop (mkF m 83 #[.val (.ref r0), .val (.int (2 : Int32)), .val (.ref b433), .val (.long (0 : Int64)), .second, .val (.int (1 : Int32)), .val (.int (1 : Int32))] [(.long (1 : Int64)), (.long (0 : Int64))]))
     refine own_st (fun t_ => XS.aloadN (own_here Y439) hx rfl (hb hby own_d1_83) rfl rfl) ?_
     show own_Ends _ _ _ _ (T438.setTop (mkF m 84 #[.val (.ref r0), .val (.int (2 : Int32)), .val (.ref b433), .val (.long (0 : Int64)), .second, .val (.int (1 : Int32)), .val (.int (1 : Int32))] [(.ref r0), (.long (1 : Int64)), (.long (0 : Int64))]))
     refine own_st (fun t_ => XS.iload (own_here Y439) hx rfl (hb hby own_d1_84) rfl) ?_
     show own_Ends _ _ _ _ (T438.setTop (mkF m 86 #[.val (.ref r0), .val (.int (2 : Int32)), .val (.ref b433), .val (.long (0 : Int64)), .second, .val (.int (1 : Int32)), .val (.int (1 : Int32))] [(.int (1 : Int32)), (.ref r0), (.long (1 : Int64)), (.long (0 : Int64))]))
     have f445 : own_A Z h440 r0 .int [(.int t0), (.int t1), (.int t2)] := f437.keep K443 (ninS ne435 nin0)
     refine own_ldI Y439 hx hZ f445 (i := 1) (by decide) (by decide) (Nat.le_of_ble_eq_true rfl) (v := (.int t1)) rfl rfl rfl (hb hby own_d1_86) ?_
     show own_Ends _ _ _ _ (T438.setTop (mkF m 87 #[.val (.ref r0), .val (.int (2 : Int32)), .val (.ref b433), .val (.long (0 : Int64)), .second, .val (.int (1 : Int32)), .val (.int (1 : Int32))] [(.int t1), (.long (1 : Int64)), (.long (0 : Int64))]))
     refine own_st (fun t_ => XS.i2l (own_here Y439) hx rfl (hb hby own_d1_87) rfl) ?_
     show own_Ends _ _ _ _ (T438.setTop (mkF m 88 #[.val (.ref r0), .val (.int (2 : Int32)), .val (.ref b433), .val (.long (0 : Int64)), .second, .val (.int (1 : Int32)), .val (.int (1 : Int32))] [(.long (t1.toInt64)), (.long (1 : Int64)), (.long (0 : Int64))]))
     refine own_callS Y439 hx hZ (y := (⟨"com/example/poset/poset/core/Marking", "mix", "(JJ)J"⟩ : MethodName)) hown (hw _ (List.mem_of_getElem? (i := 10) rfl)) (hw _ (List.mem_of_getElem? (i := 11) rfl)) (hw _ (List.mem_of_getElem? (i := 4) rfl)) (hw _ (List.mem_of_getElem? (i := 12) rfl)) (by decide) (argsL := [(.long (1 : Int64)), (.long (t1.toInt64))]) (rest := [(.long (0 : Int64))]) (own_rm3 l Z a0 hw [] (1 : Int64) (t1.toInt64)  h440 n0  ) (W := 2) (by decide) (by decide) (by decide) (by decide) rfl (by rw [hml]; rfl) (lenOf own_pd6 rfl) rfl (by show 2 * 0 + _ ≤ _; exact Nat.le_of_eq rfl) (hb hby own_d1_88) (fun T446 h448 v449 Y447 q450 => ?_)
     obtain ⟨m451, rfl, rfl⟩ := q450
     show own_Ends _ _ _ _ (T446.setTop (mkF m 91 #[.val (.ref r0), .val (.int (2 : Int32)), .val (.ref b433), .val (.long (0 : Int64)), .second, .val (.int (1 : Int32)), .val (.int (1 : Int32))] [(.long m451), (.long (0 : Int64))]))
     refine own_st (fun t_ => XS.ladd (own_here Y447) hx rfl (hb hby own_d1_91) rfl) ?_
     show own_Ends _ _ _ _ (T446.setTop (mkF m 92 #[.val (.ref r0), .val (.int (2 : Int32)), .val (.ref b433), .val (.long (0 : Int64)), .second, .val (.int (1 : Int32)), .val (.int (1 : Int32))] [(.long ((0 : Int64) + m451))]))
     refine own_st (fun t_ => XS.lstoreN (own_here Y447) hx rfl (hb hby own_d1_92) rfl (l' := #[.val (.ref r0), .val (.int (2 : Int32)), .val (.ref b433), .val (.long ((0 : Int64) + m451)), .second, .val (.int (1 : Int32)), .val (.int (1 : Int32))]) rfl) ?_
     show own_Ends _ _ _ _ (T446.setTop (mkF m 93 #[.val (.ref r0), .val (.int (2 : Int32)), .val (.ref b433), .val (.long ((0 : Int64) + m451)), .second, .val (.int (1 : Int32)), .val (.int (1 : Int32))] []))
     refine own_st (fun t_ => XS.iinc (own_here Y447) hx rfl (hb hby own_d1_93) rfl (l' := #[.val (.ref r0), .val (.int (2 : Int32)), .val (.ref b433), .val (.long ((0 : Int64) + m451)), .second, .val (.int (1 : Int32)), .val (.int (2 : Int32))]) rfl) ?_
     show own_Ends _ _ _ _ (T446.setTop (mkF m 96 #[.val (.ref r0), .val (.int (2 : Int32)), .val (.ref b433), .val (.long ((0 : Int64) + m451)), .second, .val (.int (1 : Int32)), .val (.int (2 : Int32))] []))
     refine own_st (fun t_ => XS.goto (own_here Y447) hx rfl (pc0 := 96) (pc' := 48) rfl (hb hby own_d1_96) (by decide) (by decide)) ?_
     show own_Ends _ _ _ _ (T446.setTop (mkF m 48 #[.val (.ref r0), .val (.int (2 : Int32)), .val (.ref b433), .val (.long ((0 : Int64) + m451)), .second, .val (.int (1 : Int32)), .val (.int (2 : Int32))] []))
     refine own_st (fun t_ => XS.iload (own_here Y447) hx rfl (hb hby own_d1_48) rfl) ?_
     show own_Ends _ _ _ _ (T446.setTop (mkF m 50 #[.val (.ref r0), .val (.int (2 : Int32)), .val (.ref b433), .val (.long ((0 : Int64) + m451)), .second, .val (.int (1 : Int32)), .val (.int (2 : Int32))] [(.int (2 : Int32))]))
     refine own_st (fun t_ => XS.aloadN (own_here Y447) hx rfl (hb hby own_d1_50) rfl rfl) ?_
     show own_Ends _ _ _ _ (T446.setTop (mkF m 51 #[.val (.ref r0), .val (.int (2 : Int32)), .val (.ref b433), .val (.long ((0 : Int64) + m451)), .second, .val (.int (1 : Int32)), .val (.int (2 : Int32))] [(.ref r0), (.int (2 : Int32))]))
     refine own_len Y447 hx hZ f445 (z := (3 : Int32)) rfl rfl rfl (hb hby own_d1_51) ?_
     show own_Ends _ _ _ _ (T446.setTop (mkF m 52 #[.val (.ref r0), .val (.int (2 : Int32)), .val (.ref b433), .val (.long ((0 : Int64) + m451)), .second, .val (.int (1 : Int32)), .val (.int (2 : Int32))] [(.int (3 : Int32)), (.int (2 : Int32))]))
     refine own_st (fun t_ => XS.icmpNo (own_here Y447) hx rfl (hb hby own_d1_52) rfl (XT.ii_ge_f (by decide))) ?_
     show own_Ends _ _ _ _ (T446.setTop (mkF m 55 #[.val (.ref r0), .val (.int (2 : Int32)), .val (.ref b433), .val (.long ((0 : Int64) + m451)), .second, .val (.int (1 : Int32)), .val (.int (2 : Int32))] []))
     refine own_st (fun t_ => XS.aloadN (own_here Y447) hx rfl (hb hby own_d1_55) rfl rfl) ?_
     show own_Ends _ _ _ _ (T446.setTop (mkF m 56 #[.val (.ref r0), .val (.int (2 : Int32)), .val (.ref b433), .val (.long ((0 : Int64) + m451)), .second, .val (.int (1 : Int32)), .val (.int (2 : Int32))] [(.ref r0)]))
     refine own_st (fun t_ => XS.iload (own_here Y447) hx rfl (hb hby own_d1_56) rfl) ?_
     show own_Ends _ _ _ _ (T446.setTop (mkF m 58 #[.val (.ref r0), .val (.int (2 : Int32)), .val (.ref b433), .val (.long ((0 : Int64) + m451)), .second, .val (.int (1 : Int32)), .val (.int (2 : Int32))] [(.int (2 : Int32)), (.ref r0)]))
     refine own_ldI Y447 hx hZ f445 (i := 2) (by decide) (by decide) (Nat.le_of_ble_eq_true rfl) (v := (.int t2)) rfl rfl rfl (hb hby own_d1_58) ?_
     show own_Ends _ _ _ _ (T446.setTop (mkF m 59 #[.val (.ref r0), .val (.int (2 : Int32)), .val (.ref b433), .val (.long ((0 : Int64) + m451)), .second, .val (.int (1 : Int32)), .val (.int (2 : Int32))] [(.int t2)]))
     refine own_st (fun t_ => XS.ifNo (own_here Y447) hx rfl (hb hby own_d1_59) rfl (XT.i0_le_f c24_427)) ?_
     show own_Ends _ _ _ _ (T446.setTop (mkF m 62 #[.val (.ref r0), .val (.int (2 : Int32)), .val (.ref b433), .val (.long ((0 : Int64) + m451)), .second, .val (.int (1 : Int32)), .val (.int (2 : Int32))] []))
     refine own_st (fun t_ => XS.aloadN (own_here Y447) hx rfl (hb hby own_d1_62) rfl rfl) ?_
     show own_Ends _ _ _ _ (T446.setTop (mkF m 63 #[.val (.ref r0), .val (.int (2 : Int32)), .val (.ref b433), .val (.long ((0 : Int64) + m451)), .second, .val (.int (1 : Int32)), .val (.int (2 : Int32))] [(.ref b433)]))
     refine own_st (fun t_ => XS.iconst (own_here Y447) hx rfl (hb hby own_d1_63) ) ?_
     show own_Ends _ _ _ _ (T446.setTop (mkF m 64 #[.val (.ref r0), .val (.int (2 : Int32)), .val (.ref b433), .val (.long ((0 : Int64) + m451)), .second, .val (.int (1 : Int32)), .val (.int (2 : Int32))] [(.int (0 : Int32)), (.ref b433)]))
     refine own_st (fun t_ => XS.iload (own_here Y447) hx rfl (hb hby own_d1_64) rfl) ?_
     show own_Ends _ _ _ _ (T446.setTop (mkF m 66 #[.val (.ref r0), .val (.int (2 : Int32)), .val (.ref b433), .val (.long ((0 : Int64) + m451)), .second, .val (.int (1 : Int32)), .val (.int (2 : Int32))] [(.int (1 : Int32)), (.int (0 : Int32)), (.ref b433)]))
     refine own_st (fun t_ => XS.iinc (own_here Y447) hx rfl (hb hby own_d1_66) rfl (l' := #[.val (.ref r0), .val (.int (2 : Int32)), .val (.ref b433), .val (.long ((0 : Int64) + m451)), .second, .val (.int (2 : Int32)), .val (.int (2 : Int32))]) rfl) ?_
     show own_Ends _ _ _ _ (T446.setTop (mkF m 69 #[.val (.ref r0), .val (.int (2 : Int32)), .val (.ref b433), .val (.long ((0 : Int64) + m451)), .second, .val (.int (2 : Int32)), .val (.int (2 : Int32))] [(.int (1 : Int32)), (.int (0 : Int32)), (.ref b433)]))
     refine own_st (fun t_ => XS.iload (own_here Y447) hx rfl (hb hby own_d1_69) rfl) ?_
     show own_Ends _ _ _ _ (T446.setTop (mkF m 71 #[.val (.ref r0), .val (.int (2 : Int32)), .val (.ref b433), .val (.long ((0 : Int64) + m451)), .second, .val (.int (2 : Int32)), .val (.int (2 : Int32))] [(.int (2 : Int32)), (.int (1 : Int32)), (.int (0 : Int32)), (.ref b433)]))
     refine own_st (fun t_ => XS.aloadN (own_here Y447) hx rfl (hb hby own_d1_71) rfl rfl) ?_
     show own_Ends _ _ _ _ (T446.setTop (mkF m 72 #[.val (.ref r0), .val (.int (2 : Int32)), .val (.ref b433), .val (.long ((0 : Int64) + m451)), .second, .val (.int (2 : Int32)), .val (.int (2 : Int32))] [(.ref r0), (.int (2 : Int32)), (.int (1 : Int32)), (.int (0 : Int32)), (.ref b433)]))
     refine own_st (fun t_ => XS.iload (own_here Y447) hx rfl (hb hby own_d1_72) rfl) ?_
     show own_Ends _ _ _ _ (T446.setTop (mkF m 74 #[.val (.ref r0), .val (.int (2 : Int32)), .val (.ref b433), .val (.long ((0 : Int64) + m451)), .second, .val (.int (2 : Int32)), .val (.int (2 : Int32))] [(.int (2 : Int32)), (.ref r0), (.int (2 : Int32)), (.int (1 : Int32)), (.int (0 : Int32)), (.ref b433)]))
     refine own_ldI Y447 hx hZ f445 (i := 2) (by decide) (by decide) (Nat.le_of_ble_eq_true rfl) (v := (.int t2)) rfl rfl rfl (hb hby own_d1_74) ?_
     show own_Ends _ _ _ _ (T446.setTop (mkF m 75 #[.val (.ref r0), .val (.int (2 : Int32)), .val (.ref b433), .val (.long ((0 : Int64) + m451)), .second, .val (.int (2 : Int32)), .val (.int (2 : Int32))] [(.int t2), (.int (2 : Int32)), (.int (1 : Int32)), (.int (0 : Int32)), (.ref b433)]))
     refine own_st (fun t_ => XS.i2l (own_here Y447) hx rfl (hb hby own_d1_75) rfl) ?_
     show own_Ends _ _ _ _ (T446.setTop (mkF m 76 #[.val (.ref r0), .val (.int (2 : Int32)), .val (.ref b433), .val (.long ((0 : Int64) + m451)), .second, .val (.int (2 : Int32)), .val (.int (2 : Int32))] [(.long (t2.toInt64)), (.int (2 : Int32)), (.int (1 : Int32)), (.int (0 : Int32)), (.ref b433)]))
     refine own_callS Y447 hx hZ (y := (⟨"com/example/poset/poset/core/Marking", "put", "([JZIIJ)V"⟩ : MethodName)) hown (hw _ (List.mem_of_getElem? (i := 7) rfl)) (hw _ (List.mem_of_getElem? (i := 8) rfl)) (hw _ (List.mem_of_getElem? (i := 4) rfl)) (hw _ (List.mem_of_getElem? (i := 9) rfl)) (by decide) (argsL := [(.ref b433), (.int (0 : Int32)), (.int (1 : Int32)), (.int (2 : Int32)), (.long (t2.toInt64))]) (rest := []) (own_rm2_2_1 l Z a0 hw [] b433 (2 : Int32) (t2.toInt64) (own_E (1 : Int32) t1) (0 : Int64) t2 h440 n0  F444 g436 rfl) (W := 0) (by decide) (by decide) (by decide) (by decide) rfl (by rw [hml]; rfl) (lenOf own_pd5 rfl) rfl (by show 2 * 0 + _ ≤ _; exact Nat.le_of_eq rfl) (hb hby own_d1_76) (fun T452 h454 v455 Y453 q456 => ?_)
     obtain ⟨rfl, K457, F458⟩ := q456
     show own_Ends _ _ _ _ (T452.setTop (mkF m 79 #[.val (.ref r0), .val (.int (2 : Int32)), .val (.ref b433), .val (.long ((0 : Int64) + m451)), .second, .val (.int (2 : Int32)), .val (.int (2 : Int32))] []))
     refine own_st (fun t_ => XS.lloadN (own_here Y453) hx rfl (hb hby own_d1_79) rfl) ?_
     show own_Ends _ _ _ _ (T452.setTop (mkF m 80 #[.val (.ref r0), .val (.int (2 : Int32)), .val (.ref b433), .val (.long ((0 : Int64) + m451)), .second, .val (.int (2 : Int32)), .val (.int (2 : Int32))] [(.long ((0 : Int64) + m451))]))
     refine own_st (fun t_ => XS.iload (own_here Y453) hx rfl (hb hby own_d1_80) rfl) ?_
     show own_Ends _ _ _ _ (T452.setTop (mkF m 82 #[.val (.ref r0), .val (.int (2 : Int32)), .val (.ref b433), .val (.long ((0 : Int64) + m451)), .second, .val (.int (2 : Int32)), .val (.int (2 : Int32))] [(.int (2 : Int32)), (.long ((0 : Int64) + m451))]))
     refine own_st (fun t_ => XS.i2l (own_here Y453) hx rfl (hb hby own_d1_82) rfl) ?_
     show own_Ends _ _ _ _ (T452.setTop (mkF m 83 #[.val (.ref r0), .val (.int (2 : Int32)), .val (.ref b433), .val (.long ((0 : Int64) + m451)), .second, .val (.int (2 : Int32)), .val (.int (2 : Int32))] [(.long (2 : Int64)), (.long ((0 : Int64) + m451))]))
     refine own_st (fun t_ => XS.aloadN (own_here Y453) hx rfl (hb hby own_d1_83) rfl rfl) ?_
     show own_Ends _ _ _ _ (T452.setTop (mkF m 84 #[.val (.ref r0), .val (.int (2 : Int32)), .val (.ref b433), .val (.long ((0 : Int64) + m451)), .second, .val (.int (2 : Int32)), .val (.int (2 : Int32))] [(.ref r0), (.long (2 : Int64)), (.long ((0 : Int64) + m451))]))
     refine own_st (fun t_ => XS.iload (own_here Y453) hx rfl (hb hby own_d1_84) rfl) ?_
     show own_Ends _ _ _ _ (T452.setTop (mkF m 86 #[.val (.ref r0), .val (.int (2 : Int32)), .val (.ref b433), .val (.long ((0 : Int64) + m451)), .second, .val (.int (2 : Int32)), .val (.int (2 : Int32))] [(.int (2 : Int32)), (.ref r0), (.long (2 : Int64)), (.long ((0 : Int64) + m451))]))
     have f459 : own_A Z h454 r0 .int [(.int t0), (.int t1), (.int t2)] := f445.keep K457 (ninS ne435 nin0)
     refine own_ldI Y453 hx hZ f459 (i := 2) (by decide) (by decide) (Nat.le_of_ble_eq_true rfl) (v := (.int t2)) rfl rfl rfl (hb hby own_d1_86) ?_
     show own_Ends _ _ _ _ (T452.setTop (mkF m 87 #[.val (.ref r0), .val (.int (2 : Int32)), .val (.ref b433), .val (.long ((0 : Int64) + m451)), .second, .val (.int (2 : Int32)), .val (.int (2 : Int32))] [(.int t2), (.long (2 : Int64)), (.long ((0 : Int64) + m451))]))
     refine own_st (fun t_ => XS.i2l (own_here Y453) hx rfl (hb hby own_d1_87) rfl) ?_
     show own_Ends _ _ _ _ (T452.setTop (mkF m 88 #[.val (.ref r0), .val (.int (2 : Int32)), .val (.ref b433), .val (.long ((0 : Int64) + m451)), .second, .val (.int (2 : Int32)), .val (.int (2 : Int32))] [(.long (t2.toInt64)), (.long (2 : Int64)), (.long ((0 : Int64) + m451))]))
     refine own_callS Y453 hx hZ (y := (⟨"com/example/poset/poset/core/Marking", "mix", "(JJ)J"⟩ : MethodName)) hown (hw _ (List.mem_of_getElem? (i := 10) rfl)) (hw _ (List.mem_of_getElem? (i := 11) rfl)) (hw _ (List.mem_of_getElem? (i := 4) rfl)) (hw _ (List.mem_of_getElem? (i := 12) rfl)) (by decide) (argsL := [(.long (2 : Int64)), (.long (t2.toInt64))]) (rest := [(.long ((0 : Int64) + m451))]) (own_rm3 l Z a0 hw [] (2 : Int64) (t2.toInt64)  h454 n0  ) (W := 2) (by decide) (by decide) (by decide) (by decide) rfl (by rw [hml]; rfl) (lenOf own_pd6 rfl) rfl (by show 2 * 0 + _ ≤ _; exact Nat.le_of_eq rfl) (hb hby own_d1_88) (fun T460 h462 v463 Y461 q464 => ?_)
     obtain ⟨m465, rfl, rfl⟩ := q464
     show own_Ends _ _ _ _ (T460.setTop (mkF m 91 #[.val (.ref r0), .val (.int (2 : Int32)), .val (.ref b433), .val (.long ((0 : Int64) + m451)), .second, .val (.int (2 : Int32)), .val (.int (2 : Int32))] [(.long m465), (.long ((0 : Int64) + m451))]))
     refine own_st (fun t_ => XS.ladd (own_here Y461) hx rfl (hb hby own_d1_91) rfl) ?_
     show own_Ends _ _ _ _ (T460.setTop (mkF m 92 #[.val (.ref r0), .val (.int (2 : Int32)), .val (.ref b433), .val (.long ((0 : Int64) + m451)), .second, .val (.int (2 : Int32)), .val (.int (2 : Int32))] [(.long (((0 : Int64) + m451) + m465))]))
     refine own_st (fun t_ => XS.lstoreN (own_here Y461) hx rfl (hb hby own_d1_92) rfl (l' := #[.val (.ref r0), .val (.int (2 : Int32)), .val (.ref b433), .val (.long (((0 : Int64) + m451) + m465)), .second, .val (.int (2 : Int32)), .val (.int (2 : Int32))]) rfl) ?_
     show own_Ends _ _ _ _ (T460.setTop (mkF m 93 #[.val (.ref r0), .val (.int (2 : Int32)), .val (.ref b433), .val (.long (((0 : Int64) + m451) + m465)), .second, .val (.int (2 : Int32)), .val (.int (2 : Int32))] []))
     refine own_st (fun t_ => XS.iinc (own_here Y461) hx rfl (hb hby own_d1_93) rfl (l' := #[.val (.ref r0), .val (.int (2 : Int32)), .val (.ref b433), .val (.long (((0 : Int64) + m451) + m465)), .second, .val (.int (2 : Int32)), .val (.int (3 : Int32))]) rfl) ?_
     show own_Ends _ _ _ _ (T460.setTop (mkF m 96 #[.val (.ref r0), .val (.int (2 : Int32)), .val (.ref b433), .val (.long (((0 : Int64) + m451) + m465)), .second, .val (.int (2 : Int32)), .val (.int (3 : Int32))] []))
     refine own_st (fun t_ => XS.goto (own_here Y461) hx rfl (pc0 := 96) (pc' := 48) rfl (hb hby own_d1_96) (by decide) (by decide)) ?_
     show own_Ends _ _ _ _ (T460.setTop (mkF m 48 #[.val (.ref r0), .val (.int (2 : Int32)), .val (.ref b433), .val (.long (((0 : Int64) + m451) + m465)), .second, .val (.int (2 : Int32)), .val (.int (3 : Int32))] []))
     refine own_st (fun t_ => XS.iload (own_here Y461) hx rfl (hb hby own_d1_48) rfl) ?_
     show own_Ends _ _ _ _ (T460.setTop (mkF m 50 #[.val (.ref r0), .val (.int (2 : Int32)), .val (.ref b433), .val (.long (((0 : Int64) + m451) + m465)), .second, .val (.int (2 : Int32)), .val (.int (3 : Int32))] [(.int (3 : Int32))]))
     refine own_st (fun t_ => XS.aloadN (own_here Y461) hx rfl (hb hby own_d1_50) rfl rfl) ?_
     show own_Ends _ _ _ _ (T460.setTop (mkF m 51 #[.val (.ref r0), .val (.int (2 : Int32)), .val (.ref b433), .val (.long (((0 : Int64) + m451) + m465)), .second, .val (.int (2 : Int32)), .val (.int (3 : Int32))] [(.ref r0), (.int (3 : Int32))]))
     refine own_len Y461 hx hZ f459 (z := (3 : Int32)) rfl rfl rfl (hb hby own_d1_51) ?_
     show own_Ends _ _ _ _ (T460.setTop (mkF m 52 #[.val (.ref r0), .val (.int (2 : Int32)), .val (.ref b433), .val (.long (((0 : Int64) + m451) + m465)), .second, .val (.int (2 : Int32)), .val (.int (3 : Int32))] [(.int (3 : Int32)), (.int (3 : Int32))]))
     refine own_st (fun t_ => XS.icmpYes (own_here Y461) hx rfl (pc0 := 52) (pc' := 99) rfl (hb hby own_d1_52) rfl (XT.ii_ge_t (by decide)) (by decide) (by decide)) ?_
     show own_Ends _ _ _ _ (T460.setTop (mkF m 99 #[.val (.ref r0), .val (.int (2 : Int32)), .val (.ref b433), .val (.long (((0 : Int64) + m451) + m465)), .second, .val (.int (2 : Int32)), .val (.int (3 : Int32))] []))
     refine own_new Y461 hx hZ hown (hw _ (List.mem_of_getElem? (i := 14) rfl)) (hw _ (List.mem_of_getElem? (i := 15) rfl)) (hw _ (List.mem_of_getElem? (i := 4) rfl)) rfl (hb hby own_d1_99) (by decide) (by decide) (fun T466 h468 b472 eb473 Y467 E469 X470 D471 => ?_)
     have ne474 : r0 ≠ b472 := Nat.ne_of_lt (by rw [eb473]; exact f459.lt)
     have ne475 : b433 ≠ b472 := Nat.ne_of_lt (by rw [eb473]; exact F458.lt)
     have z477 : n0 ≤ h430.size := Nat.le_trans Z0 E431.1
     have z478 : n0 ≤ h440.size := Nat.le_trans z477 K443.1
     have z479 : n0 ≤ h454.size := Nat.le_trans z478 K457.1
     have g476 : n0 ≤ b472 := by rw [eb473]; exact z479
     have F480 : Fld Z h468 b472 "com/example/poset/poset/core/Marking" "size" "I" (.int (0 : Int32)) := D471 _ _ _ .int (Or.inr (hw _ (List.mem_of_getElem? (i := 23) rfl))) (by decide)
     have F481 : Fld Z h468 b472 "com/example/poset/poset/core/Marking" "entries" "[J" .null := D471 _ _ _ (.array .long) (Or.inr (hw _ (List.mem_of_getElem? (i := 25) rfl))) (by decide)
     have F482 : Fld Z h468 b472 "com/example/poset/poset/core/Marking" "wide" "Z" (.int (0 : Int32)) := D471 _ _ _ .boolean (Or.inr (hw _ (List.mem_of_getElem? (i := 27) rfl))) (by decide)
     have F483 : Fld Z h468 b472 "com/example/poset/poset/core/Marking" "mixed" "J" (.long (0 : Int64)) := D471 _ _ _ .long (Or.inr (hw _ (List.mem_of_getElem? (i := 29) rfl))) (by decide)
     show own_Ends _ _ _ _ (T466.setTop (mkF m 102 #[.val (.ref r0), .val (.int (2 : Int32)), .val (.ref b433), .val (.long (((0 : Int64) + m451) + m465)), .second, .val (.int (2 : Int32)), .val (.int (3 : Int32))] [(.ref b472)]))
     refine own_st (fun t_ => XS.dup (own_here Y467) hx rfl (hb hby own_d1_102) rfl rfl) ?_
     show own_Ends _ _ _ _ (T466.setTop (mkF m 103 #[.val (.ref r0), .val (.int (2 : Int32)), .val (.ref b433), .val (.long (((0 : Int64) + m451) + m465)), .second, .val (.int (2 : Int32)), .val (.int (3 : Int32))] [(.ref b472), (.ref b472)]))
     refine own_st (fun t_ => XS.aloadN (own_here Y467) hx rfl (hb hby own_d1_103) rfl rfl) ?_
     show own_Ends _ _ _ _ (T466.setTop (mkF m 104 #[.val (.ref r0), .val (.int (2 : Int32)), .val (.ref b433), .val (.long (((0 : Int64) + m451) + m465)), .second, .val (.int (2 : Int32)), .val (.int (3 : Int32))] [(.ref r0), (.ref b472), (.ref b472)]))
     have f484 : own_A Z h468 r0 .int [(.int t0), (.int t1), (.int t2)] := f459.ext E469
     refine own_len Y467 hx hZ f484 (z := (3 : Int32)) rfl rfl rfl (hb hby own_d1_104) ?_
     show own_Ends _ _ _ _ (T466.setTop (mkF m 105 #[.val (.ref r0), .val (.int (2 : Int32)), .val (.ref b433), .val (.long (((0 : Int64) + m451) + m465)), .second, .val (.int (2 : Int32)), .val (.int (3 : Int32))] [(.int (3 : Int32)), (.ref b472), (.ref b472)]))
     refine own_st (fun t_ => XS.aloadN (own_here Y467) hx rfl (hb hby own_d1_105) rfl rfl) ?_
     show own_Ends _ _ _ _ (T466.setTop (mkF m 106 #[.val (.ref r0), .val (.int (2 : Int32)), .val (.ref b433), .val (.long (((0 : Int64) + m451) + m465)), .second, .val (.int (2 : Int32)), .val (.int (3 : Int32))] [(.ref b433), (.int (3 : Int32)), (.ref b472), (.ref b472)]))
     refine own_st (fun t_ => XS.iconst (own_here Y467) hx rfl (hb hby own_d1_106) ) ?_
     show own_Ends _ _ _ _ (T466.setTop (mkF m 107 #[.val (.ref r0), .val (.int (2 : Int32)), .val (.ref b433), .val (.long (((0 : Int64) + m451) + m465)), .second, .val (.int (2 : Int32)), .val (.int (3 : Int32))] [(.int (0 : Int32)), (.ref b433), (.int (3 : Int32)), (.ref b472), (.ref b472)]))
     refine own_st (fun t_ => XS.lloadN (own_here Y467) hx rfl (hb hby own_d1_107) rfl) ?_
     show own_Ends _ _ _ _ (T466.setTop (mkF m 108 #[.val (.ref r0), .val (.int (2 : Int32)), .val (.ref b433), .val (.long (((0 : Int64) + m451) + m465)), .second, .val (.int (2 : Int32)), .val (.int (3 : Int32))] [(.long (((0 : Int64) + m451) + m465)), (.int (0 : Int32)), (.ref b433), (.int (3 : Int32)), (.ref b472), (.ref b472)]))
     refine own_callN Y467 hx hZ (y := (⟨"com/example/poset/poset/core/Marking", "<init>", "(I[JZJ)V"⟩ : MethodName)) rfl hown (hw _ (List.mem_of_getElem? (i := 16) rfl)) (hw _ (List.mem_of_getElem? (i := 17) rfl)) (hw _ (List.mem_of_getElem? (i := 4) rfl)) (hw _ (List.mem_of_getElem? (i := 18) rfl)) (by decide) (a := b472) (argsL := [(.int (3 : Int32)), (.ref b433), (.int (0 : Int32)), (.long (((0 : Int64) + m451) + m465))]) (rest := [(.ref b472)]) (own_rm4 l Z a0 hw [] b472 (3 : Int32) b433 (((0 : Int64) + m451) + m465)  h468 n0  X470 F480 F481 F482 F483 g476) (W := 1) (by decide) (by decide) (by decide) (by decide) rfl (by rw [hml]; rfl) (lenOf own_pd7 rfl) rfl (by show 2 * 0 + _ ≤ _; exact Nat.le_of_eq rfl) (hb hby own_d1_108) (fun T485 h487 v488 Y486 q489 => ?_)
     obtain ⟨rfl, K490, F491, F492, F493⟩ := q489
     show own_Ends _ _ _ _ (T485.setTop (mkF m 111 #[.val (.ref r0), .val (.int (2 : Int32)), .val (.ref b433), .val (.long (((0 : Int64) + m451) + m465)), .second, .val (.int (2 : Int32)), .val (.int (3 : Int32))] [(.ref b472)]))
     have z494 : n0 ≤ h468.size := Nat.le_trans z479 E469.1
     have z495 : n0 ≤ h487.size := Nat.le_trans z494 K490.1
     have f496 : own_A Z h468 b433 .long [(.long (own_E (1 : Int32) t1)), (.long (own_E (2 : Int32) t2))] := F458.ext E469
     have f497 : own_A Z h487 b433 .long [(.long (own_E (1 : Int32) t1)), (.long (own_E (2 : Int32) t2))] := f496.keep K490 (ninS ne475 nin0)
     have hes : own_es t0 t1 t2 = [(own_E (1 : Int32) t1), (own_E (2 : Int32) t2)] := by simp [own_es, c24_138, c24_426, c24_427]
     have f498 : Exa Z h487 b472 "com/example/poset/poset/core/Marking" := X470.keep K490
     refine own_retA Y486 hx hlk hret rfl rfl rfl (hb hby own_d1_111) (by decide) (by decide) ?_
     exact ⟨_, _, rfl, z495, f498, F491, F492, F493, by rw [hes]; exact f497⟩
    ·
     refine own_st (fun t_ => XS.ifYes (own_here Y0) hx rfl (pc0 := 24) (pc' := 30) rfl (hb hby own_d1_24) rfl (XT.i0_le_t c24_427) (by decide) (by decide)) ?_
     show own_Ends _ _ _ _ (T0.setTop (mkF m 30 #[.val (.ref r0), .val (.int (1 : Int32)), .val (.ref r0), .val (.int (3 : Int32)), .val (.int (2 : Int32)), .val (.int t2), .unset] []))
     refine own_st (fun t_ => XS.iinc (own_here Y0) hx rfl (hb hby own_d1_30) rfl (l' := #[.val (.ref r0), .val (.int (1 : Int32)), .val (.ref r0), .val (.int (3 : Int32)), .val (.int (3 : Int32)), .val (.int t2), .unset]) rfl) ?_
     show own_Ends _ _ _ _ (T0.setTop (mkF m 33 #[.val (.ref r0), .val (.int (1 : Int32)), .val (.ref r0), .val (.int (3 : Int32)), .val (.int (3 : Int32)), .val (.int t2), .unset] []))
     refine own_st (fun t_ => XS.goto (own_here Y0) hx rfl (pc0 := 33) (pc' := 10) rfl (hb hby own_d1_33) (by decide) (by decide)) ?_
     show own_Ends _ _ _ _ (T0.setTop (mkF m 10 #[.val (.ref r0), .val (.int (1 : Int32)), .val (.ref r0), .val (.int (3 : Int32)), .val (.int (3 : Int32)), .val (.int t2), .unset] []))
     refine own_st (fun t_ => XS.iload (own_here Y0) hx rfl (hb hby own_d1_10) rfl) ?_
     show own_Ends _ _ _ _ (T0.setTop (mkF m 12 #[.val (.ref r0), .val (.int (1 : Int32)), .val (.ref r0), .val (.int (3 : Int32)), .val (.int (3 : Int32)), .val (.int t2), .unset] [(.int (3 : Int32))]))
     refine own_st (fun t_ => XS.iloadN (own_here Y0) hx rfl (hb hby own_d1_12) rfl) ?_
     show own_Ends _ _ _ _ (T0.setTop (mkF m 13 #[.val (.ref r0), .val (.int (1 : Int32)), .val (.ref r0), .val (.int (3 : Int32)), .val (.int (3 : Int32)), .val (.int t2), .unset] [(.int (3 : Int32)), (.int (3 : Int32))]))
     refine own_st (fun t_ => XS.icmpYes (own_here Y0) hx rfl (pc0 := 13) (pc' := 36) rfl (hb hby own_d1_13) rfl (XT.ii_ge_t (by decide)) (by decide) (by decide)) ?_
     show own_Ends _ _ _ _ (T0.setTop (mkF m 36 #[.val (.ref r0), .val (.int (1 : Int32)), .val (.ref r0), .val (.int (3 : Int32)), .val (.int (3 : Int32)), .val (.int t2), .unset] []))
     refine own_st (fun t_ => XS.iloadN (own_here Y0) hx rfl (hb hby own_d1_36) rfl) ?_
     show own_Ends _ _ _ _ (T0.setTop (mkF m 37 #[.val (.ref r0), .val (.int (1 : Int32)), .val (.ref r0), .val (.int (3 : Int32)), .val (.int (3 : Int32)), .val (.int t2), .unset] [(.int (1 : Int32))]))
     refine own_newP Y0 hx hZ (hw _ (List.mem_of_getElem? (i := 6) rfl)) rfl (hb hby own_d1_37) rfl (by decide) (nz := 1) (cap := 1) (by decide) (by decide) (by decide) (by decide) (by decide) (ty := .long) rfl (fun T499 h501 b504 eb505 Y500 E502 A503 => ?_)
     have ne506 : r0 ≠ b504 := Nat.ne_of_lt (by rw [eb505]; exact A.lt)
     have g507 : n0 ≤ b504 := by rw [eb505]; exact Z0
     replace A503 : own_A Z h501 b504 .long [(.long (0 : Int64))] := A503
     show own_Ends _ _ _ _ (T499.setTop (mkF m 39 #[.val (.ref r0), .val (.int (1 : Int32)), .val (.ref r0), .val (.int (3 : Int32)), .val (.int (3 : Int32)), .val (.int t2), .unset] [(.ref b504)]))
     refine own_st (fun t_ => XS.astoreN (own_here Y500) hx rfl (hb hby own_d1_39) rfl rfl (l' := #[.val (.ref r0), .val (.int (1 : Int32)), .val (.ref b504), .val (.int (3 : Int32)), .val (.int (3 : Int32)), .val (.int t2), .unset]) rfl) ?_
     show own_Ends _ _ _ _ (T499.setTop (mkF m 40 #[.val (.ref r0), .val (.int (1 : Int32)), .val (.ref b504), .val (.int (3 : Int32)), .val (.int (3 : Int32)), .val (.int t2), .unset] []))
     refine own_st (fun t_ => XS.lconst (own_here Y500) hx rfl (hb hby own_d1_40) ) ?_
     show own_Ends _ _ _ _ (T499.setTop (mkF m 41 #[.val (.ref r0), .val (.int (1 : Int32)), .val (.ref b504), .val (.int (3 : Int32)), .val (.int (3 : Int32)), .val (.int t2), .unset] [(.long (0 : Int64))]))
     refine own_st (fun t_ => XS.lstoreN (own_here Y500) hx rfl (hb hby own_d1_41) rfl (l' := #[.val (.ref r0), .val (.int (1 : Int32)), .val (.ref b504), .val (.long (0 : Int64)), .second, .val (.int t2), .unset]) rfl) ?_
     show own_Ends _ _ _ _ (T499.setTop (mkF m 42 #[.val (.ref r0), .val (.int (1 : Int32)), .val (.ref b504), .val (.long (0 : Int64)), .second, .val (.int t2), .unset] []))
     refine own_st (fun t_ => XS.iconst (own_here Y500) hx rfl (hb hby own_d1_42) ) ?_
     show own_Ends _ _ _ _ (T499.setTop (mkF m 43 #[.val (.ref r0), .val (.int (1 : Int32)), .val (.ref b504), .val (.long (0 : Int64)), .second, .val (.int t2), .unset] [(.int (0 : Int32))]))
     refine own_st (fun t_ => XS.istore (own_here Y500) hx rfl (hb hby own_d1_43) rfl (l' := #[.val (.ref r0), .val (.int (1 : Int32)), .val (.ref b504), .val (.long (0 : Int64)), .second, .val (.int (0 : Int32)), .unset]) rfl) ?_
     show own_Ends _ _ _ _ (T499.setTop (mkF m 45 #[.val (.ref r0), .val (.int (1 : Int32)), .val (.ref b504), .val (.long (0 : Int64)), .second, .val (.int (0 : Int32)), .unset] []))
     refine own_st (fun t_ => XS.iconst (own_here Y500) hx rfl (hb hby own_d1_45) ) ?_
     show own_Ends _ _ _ _ (T499.setTop (mkF m 46 #[.val (.ref r0), .val (.int (1 : Int32)), .val (.ref b504), .val (.long (0 : Int64)), .second, .val (.int (0 : Int32)), .unset] [(.int (0 : Int32))]))
     refine own_st (fun t_ => XS.istore (own_here Y500) hx rfl (hb hby own_d1_46) rfl (l' := #[.val (.ref r0), .val (.int (1 : Int32)), .val (.ref b504), .val (.long (0 : Int64)), .second, .val (.int (0 : Int32)), .val (.int (0 : Int32))]) rfl) ?_
     show own_Ends _ _ _ _ (T499.setTop (mkF m 48 #[.val (.ref r0), .val (.int (1 : Int32)), .val (.ref b504), .val (.long (0 : Int64)), .second, .val (.int (0 : Int32)), .val (.int (0 : Int32))] []))
     refine own_st (fun t_ => XS.iload (own_here Y500) hx rfl (hb hby own_d1_48) rfl) ?_
     show own_Ends _ _ _ _ (T499.setTop (mkF m 50 #[.val (.ref r0), .val (.int (1 : Int32)), .val (.ref b504), .val (.long (0 : Int64)), .second, .val (.int (0 : Int32)), .val (.int (0 : Int32))] [(.int (0 : Int32))]))
     refine own_st (fun t_ => XS.aloadN (own_here Y500) hx rfl (hb hby own_d1_50) rfl rfl) ?_
     show own_Ends _ _ _ _ (T499.setTop (mkF m 51 #[.val (.ref r0), .val (.int (1 : Int32)), .val (.ref b504), .val (.long (0 : Int64)), .second, .val (.int (0 : Int32)), .val (.int (0 : Int32))] [(.ref r0), (.int (0 : Int32))]))
     have f508 : own_A Z h501 r0 .int [(.int t0), (.int t1), (.int t2)] := A.ext E502
     refine own_len Y500 hx hZ f508 (z := (3 : Int32)) rfl rfl rfl (hb hby own_d1_51) ?_
     show own_Ends _ _ _ _ (T499.setTop (mkF m 52 #[.val (.ref r0), .val (.int (1 : Int32)), .val (.ref b504), .val (.long (0 : Int64)), .second, .val (.int (0 : Int32)), .val (.int (0 : Int32))] [(.int (3 : Int32)), (.int (0 : Int32))]))
     refine own_st (fun t_ => XS.icmpNo (own_here Y500) hx rfl (hb hby own_d1_52) rfl (XT.ii_ge_f (by decide))) ?_
     show own_Ends _ _ _ _ (T499.setTop (mkF m 55 #[.val (.ref r0), .val (.int (1 : Int32)), .val (.ref b504), .val (.long (0 : Int64)), .second, .val (.int (0 : Int32)), .val (.int (0 : Int32))] []))
     refine own_st (fun t_ => XS.aloadN (own_here Y500) hx rfl (hb hby own_d1_55) rfl rfl) ?_
     show own_Ends _ _ _ _ (T499.setTop (mkF m 56 #[.val (.ref r0), .val (.int (1 : Int32)), .val (.ref b504), .val (.long (0 : Int64)), .second, .val (.int (0 : Int32)), .val (.int (0 : Int32))] [(.ref r0)]))
     refine own_st (fun t_ => XS.iload (own_here Y500) hx rfl (hb hby own_d1_56) rfl) ?_
     show own_Ends _ _ _ _ (T499.setTop (mkF m 58 #[.val (.ref r0), .val (.int (1 : Int32)), .val (.ref b504), .val (.long (0 : Int64)), .second, .val (.int (0 : Int32)), .val (.int (0 : Int32))] [(.int (0 : Int32)), (.ref r0)]))
     refine own_ldI Y500 hx hZ f508 (i := 0) (by decide) (by decide) (Nat.le_of_ble_eq_true rfl) (v := (.int t0)) rfl rfl rfl (hb hby own_d1_58) ?_
     show own_Ends _ _ _ _ (T499.setTop (mkF m 59 #[.val (.ref r0), .val (.int (1 : Int32)), .val (.ref b504), .val (.long (0 : Int64)), .second, .val (.int (0 : Int32)), .val (.int (0 : Int32))] [(.int t0)]))
     refine own_st (fun t_ => XS.ifYes (own_here Y500) hx rfl (pc0 := 59) (pc' := 93) rfl (hb hby own_d1_59) rfl (XT.i0_le_t c24_138) (by decide) (by decide)) ?_
     show own_Ends _ _ _ _ (T499.setTop (mkF m 93 #[.val (.ref r0), .val (.int (1 : Int32)), .val (.ref b504), .val (.long (0 : Int64)), .second, .val (.int (0 : Int32)), .val (.int (0 : Int32))] []))
     refine own_st (fun t_ => XS.iinc (own_here Y500) hx rfl (hb hby own_d1_93) rfl (l' := #[.val (.ref r0), .val (.int (1 : Int32)), .val (.ref b504), .val (.long (0 : Int64)), .second, .val (.int (0 : Int32)), .val (.int (1 : Int32))]) rfl) ?_
     show own_Ends _ _ _ _ (T499.setTop (mkF m 96 #[.val (.ref r0), .val (.int (1 : Int32)), .val (.ref b504), .val (.long (0 : Int64)), .second, .val (.int (0 : Int32)), .val (.int (1 : Int32))] []))
     refine own_st (fun t_ => XS.goto (own_here Y500) hx rfl (pc0 := 96) (pc' := 48) rfl (hb hby own_d1_96) (by decide) (by decide)) ?_
     show own_Ends _ _ _ _ (T499.setTop (mkF m 48 #[.val (.ref r0), .val (.int (1 : Int32)), .val (.ref b504), .val (.long (0 : Int64)), .second, .val (.int (0 : Int32)), .val (.int (1 : Int32))] []))
     refine own_st (fun t_ => XS.iload (own_here Y500) hx rfl (hb hby own_d1_48) rfl) ?_
     show own_Ends _ _ _ _ (T499.setTop (mkF m 50 #[.val (.ref r0), .val (.int (1 : Int32)), .val (.ref b504), .val (.long (0 : Int64)), .second, .val (.int (0 : Int32)), .val (.int (1 : Int32))] [(.int (1 : Int32))]))
     refine own_st (fun t_ => XS.aloadN (own_here Y500) hx rfl (hb hby own_d1_50) rfl rfl) ?_
     show own_Ends _ _ _ _ (T499.setTop (mkF m 51 #[.val (.ref r0), .val (.int (1 : Int32)), .val (.ref b504), .val (.long (0 : Int64)), .second, .val (.int (0 : Int32)), .val (.int (1 : Int32))] [(.ref r0), (.int (1 : Int32))]))
     refine own_len Y500 hx hZ f508 (z := (3 : Int32)) rfl rfl rfl (hb hby own_d1_51) ?_
     show own_Ends _ _ _ _ (T499.setTop (mkF m 52 #[.val (.ref r0), .val (.int (1 : Int32)), .val (.ref b504), .val (.long (0 : Int64)), .second, .val (.int (0 : Int32)), .val (.int (1 : Int32))] [(.int (3 : Int32)), (.int (1 : Int32))]))
     refine own_st (fun t_ => XS.icmpNo (own_here Y500) hx rfl (hb hby own_d1_52) rfl (XT.ii_ge_f (by decide))) ?_
     show own_Ends _ _ _ _ (T499.setTop (mkF m 55 #[.val (.ref r0), .val (.int (1 : Int32)), .val (.ref b504), .val (.long (0 : Int64)), .second, .val (.int (0 : Int32)), .val (.int (1 : Int32))] []))
     refine own_st (fun t_ => XS.aloadN (own_here Y500) hx rfl (hb hby own_d1_55) rfl rfl) ?_
     show own_Ends _ _ _ _ (T499.setTop (mkF m 56 #[.val (.ref r0), .val (.int (1 : Int32)), .val (.ref b504), .val (.long (0 : Int64)), .second, .val (.int (0 : Int32)), .val (.int (1 : Int32))] [(.ref r0)]))
     refine own_st (fun t_ => XS.iload (own_here Y500) hx rfl (hb hby own_d1_56) rfl) ?_
     show own_Ends _ _ _ _ (T499.setTop (mkF m 58 #[.val (.ref r0), .val (.int (1 : Int32)), .val (.ref b504), .val (.long (0 : Int64)), .second, .val (.int (0 : Int32)), .val (.int (1 : Int32))] [(.int (1 : Int32)), (.ref r0)]))
     refine own_ldI Y500 hx hZ f508 (i := 1) (by decide) (by decide) (Nat.le_of_ble_eq_true rfl) (v := (.int t1)) rfl rfl rfl (hb hby own_d1_58) ?_
     show own_Ends _ _ _ _ (T499.setTop (mkF m 59 #[.val (.ref r0), .val (.int (1 : Int32)), .val (.ref b504), .val (.long (0 : Int64)), .second, .val (.int (0 : Int32)), .val (.int (1 : Int32))] [(.int t1)]))
     refine own_st (fun t_ => XS.ifNo (own_here Y500) hx rfl (hb hby own_d1_59) rfl (XT.i0_le_f c24_426)) ?_
     show own_Ends _ _ _ _ (T499.setTop (mkF m 62 #[.val (.ref r0), .val (.int (1 : Int32)), .val (.ref b504), .val (.long (0 : Int64)), .second, .val (.int (0 : Int32)), .val (.int (1 : Int32))] []))
     refine own_st (fun t_ => XS.aloadN (own_here Y500) hx rfl (hb hby own_d1_62) rfl rfl) ?_
     show own_Ends _ _ _ _ (T499.setTop (mkF m 63 #[.val (.ref r0), .val (.int (1 : Int32)), .val (.ref b504), .val (.long (0 : Int64)), .second, .val (.int (0 : Int32)), .val (.int (1 : Int32))] [(.ref b504)]))
     refine own_st (fun t_ => XS.iconst (own_here Y500) hx rfl (hb hby own_d1_63) ) ?_
     show own_Ends _ _ _ _ (T499.setTop (mkF m 64 #[.val (.ref r0), .val (.int (1 : Int32)), .val (.ref b504), .val (.long (0 : Int64)), .second, .val (.int (0 : Int32)), .val (.int (1 : Int32))] [(.int (0 : Int32)), (.ref b504)]))
     refine own_st (fun t_ => XS.iload (own_here Y500) hx rfl (hb hby own_d1_64) rfl) ?_
     show own_Ends _ _ _ _ (T499.setTop (mkF m 66 #[.val (.ref r0), .val (.int (1 : Int32)), .val (.ref b504), .val (.long (0 : Int64)), .second, .val (.int (0 : Int32)), .val (.int (1 : Int32))] [(.int (0 : Int32)), (.int (0 : Int32)), (.ref b504)]))
     refine own_st (fun t_ => XS.iinc (own_here Y500) hx rfl (hb hby own_d1_66) rfl (l' := #[.val (.ref r0), .val (.int (1 : Int32)), .val (.ref b504), .val (.long (0 : Int64)), .second, .val (.int (1 : Int32)), .val (.int (1 : Int32))]) rfl) ?_
     show own_Ends _ _ _ _ (T499.setTop (mkF m 69 #[.val (.ref r0), .val (.int (1 : Int32)), .val (.ref b504), .val (.long (0 : Int64)), .second, .val (.int (1 : Int32)), .val (.int (1 : Int32))] [(.int (0 : Int32)), (.int (0 : Int32)), (.ref b504)]))
     refine own_st (fun t_ => XS.iload (own_here Y500) hx rfl (hb hby own_d1_69) rfl) ?_
     show own_Ends _ _ _ _ (T499.setTop (mkF m 71 #[.val (.ref r0), .val (.int (1 : Int32)), .val (.ref b504), .val (.long (0 : Int64)), .second, .val (.int (1 : Int32)), .val (.int (1 : Int32))] [(.int (1 : Int32)), (.int (0 : Int32)), (.int (0 : Int32)), (.ref b504)]))
     refine own_st (fun t_ => XS.aloadN (own_here Y500) hx rfl (hb hby own_d1_71) rfl rfl) ?_
     show own_Ends _ _ _ _ (T499.setTop (mkF m 72 #[.val (.ref r0), .val (.int (1 : Int32)), .val (.ref b504), .val (.long (0 : Int64)), .second, .val (.int (1 : Int32)), .val (.int (1 : Int32))] [(.ref r0), (.int (1 : Int32)), (.int (0 : Int32)), (.int (0 : Int32)), (.ref b504)]))
     refine own_st (fun t_ => XS.iload (own_here Y500) hx rfl (hb hby own_d1_72) rfl) ?_
     show own_Ends _ _ _ _ (T499.setTop (mkF m 74 #[.val (.ref r0), .val (.int (1 : Int32)), .val (.ref b504), .val (.long (0 : Int64)), .second, .val (.int (1 : Int32)), .val (.int (1 : Int32))] [(.int (1 : Int32)), (.ref r0), (.int (1 : Int32)), (.int (0 : Int32)), (.int (0 : Int32)), (.ref b504)]))
     refine own_ldI Y500 hx hZ f508 (i := 1) (by decide) (by decide) (Nat.le_of_ble_eq_true rfl) (v := (.int t1)) rfl rfl rfl (hb hby own_d1_74) ?_
     show own_Ends _ _ _ _ (T499.setTop (mkF m 75 #[.val (.ref r0), .val (.int (1 : Int32)), .val (.ref b504), .val (.long (0 : Int64)), .second, .val (.int (1 : Int32)), .val (.int (1 : Int32))] [(.int t1), (.int (1 : Int32)), (.int (0 : Int32)), (.int (0 : Int32)), (.ref b504)]))
     refine own_st (fun t_ => XS.i2l (own_here Y500) hx rfl (hb hby own_d1_75) rfl) ?_
     show own_Ends _ _ _ _ (T499.setTop (mkF m 76 #[.val (.ref r0), .val (.int (1 : Int32)), .val (.ref b504), .val (.long (0 : Int64)), .second, .val (.int (1 : Int32)), .val (.int (1 : Int32))] [(.long (t1.toInt64)), (.int (1 : Int32)), (.int (0 : Int32)), (.int (0 : Int32)), (.ref b504)]))
     refine own_callS Y500 hx hZ (y := (⟨"com/example/poset/poset/core/Marking", "put", "([JZIIJ)V"⟩ : MethodName)) hown (hw _ (List.mem_of_getElem? (i := 7) rfl)) (hw _ (List.mem_of_getElem? (i := 8) rfl)) (hw _ (List.mem_of_getElem? (i := 4) rfl)) (hw _ (List.mem_of_getElem? (i := 9) rfl)) (by decide) (argsL := [(.ref b504), (.int (0 : Int32)), (.int (0 : Int32)), (.int (1 : Int32)), (.long (t1.toInt64))]) (rest := []) (own_rm2_1_0 l Z a0 hw [] b504 (1 : Int32) (t1.toInt64) (0 : Int64) t1 h501 n0  A503 g507 rfl) (W := 0) (by decide) (by decide) (by decide) (by decide) rfl (by rw [hml]; rfl) (lenOf own_pd5 rfl) rfl (by show 2 * 0 + _ ≤ _; exact Nat.le_of_eq rfl) (hb hby own_d1_76) (fun T509 h511 v512 Y510 q513 => ?_)
     obtain ⟨rfl, K514, F515⟩ := q513
     show own_Ends _ _ _ _ (T509.setTop (mkF m 79 #[.val (.ref r0), .val (.int (1 : Int32)), .val (.ref b504), .val (.long (0 : Int64)), .second, .val (.int (1 : Int32)), .val (.int (1 : Int32))] []))
     refine own_st (fun t_ => XS.lloadN (own_here Y510) hx rfl (hb hby own_d1_79) rfl) ?_
     show own_Ends _ _ _ _ (T509.setTop (mkF m 80 #[.val (.ref r0), .val (.int (1 : Int32)), .val (.ref b504), .val (.long (0 : Int64)), .second, .val (.int (1 : Int32)), .val (.int (1 : Int32))] [(.long (0 : Int64))]))
     refine own_st (fun t_ => XS.iload (own_here Y510) hx rfl (hb hby own_d1_80) rfl) ?_
     show own_Ends _ _ _ _ (T509.setTop (mkF m 82 #[.val (.ref r0), .val (.int (1 : Int32)), .val (.ref b504), .val (.long (0 : Int64)), .second, .val (.int (1 : Int32)), .val (.int (1 : Int32))] [(.int (1 : Int32)), (.long (0 : Int64))]))
     refine own_st (fun t_ => XS.i2l (own_here Y510) hx rfl (hb hby own_d1_82) rfl) ?_
     show own_Ends _ _ _ _ (T509.setTop (mkF m 83 #[.val (.ref r0), .val (.int (1 : Int32)), .val (.ref b504), .val (.long (0 : Int64)), .second, .val (.int (1 : Int32)), .val (.int (1 : Int32))] [(.long (1 : Int64)), (.long (0 : Int64))]))
     refine own_st (fun t_ => XS.aloadN (own_here Y510) hx rfl (hb hby own_d1_83) rfl rfl) ?_
     show own_Ends _ _ _ _ (T509.setTop (mkF m 84 #[.val (.ref r0), .val (.int (1 : Int32)), .val (.ref b504), .val (.long (0 : Int64)), .second, .val (.int (1 : Int32)), .val (.int (1 : Int32))] [(.ref r0), (.long (1 : Int64)), (.long (0 : Int64))]))
     refine own_st (fun t_ => XS.iload (own_here Y510) hx rfl (hb hby own_d1_84) rfl) ?_
     show own_Ends _ _ _ _ (T509.setTop (mkF m 86 #[.val (.ref r0), .val (.int (1 : Int32)), .val (.ref b504), .val (.long (0 : Int64)), .second, .val (.int (1 : Int32)), .val (.int (1 : Int32))] [(.int (1 : Int32)), (.ref r0), (.long (1 : Int64)), (.long (0 : Int64))]))
     have f516 : own_A Z h511 r0 .int [(.int t0), (.int t1), (.int t2)] := f508.keep K514 (ninS ne506 nin0)
     refine own_ldI Y510 hx hZ f516 (i := 1) (by decide) (by decide) (Nat.le_of_ble_eq_true rfl) (v := (.int t1)) rfl rfl rfl (hb hby own_d1_86) ?_
     show own_Ends _ _ _ _ (T509.setTop (mkF m 87 #[.val (.ref r0), .val (.int (1 : Int32)), .val (.ref b504), .val (.long (0 : Int64)), .second, .val (.int (1 : Int32)), .val (.int (1 : Int32))] [(.int t1), (.long (1 : Int64)), (.long (0 : Int64))]))
     refine own_st (fun t_ => XS.i2l (own_here Y510) hx rfl (hb hby own_d1_87) rfl) ?_
     show own_Ends _ _ _ _ (T509.setTop (mkF m 88 #[.val (.ref r0), .val (.int (1 : Int32)), .val (.ref b504), .val (.long (0 : Int64)), .second, .val (.int (1 : Int32)), .val (.int (1 : Int32))] [(.long (t1.toInt64)), (.long (1 : Int64)), (.long (0 : Int64))]))
     refine own_callS Y510 hx hZ (y := (⟨"com/example/poset/poset/core/Marking", "mix", "(JJ)J"⟩ : MethodName)) hown (hw _ (List.mem_of_getElem? (i := 10) rfl)) (hw _ (List.mem_of_getElem? (i := 11) rfl)) (hw _ (List.mem_of_getElem? (i := 4) rfl)) (hw _ (List.mem_of_getElem? (i := 12) rfl)) (by decide) (argsL := [(.long (1 : Int64)), (.long (t1.toInt64))]) (rest := [(.long (0 : Int64))]) (own_rm3 l Z a0 hw [] (1 : Int64) (t1.toInt64)  h511 n0  ) (W := 2) (by decide) (by decide) (by decide) (by decide) rfl (by rw [hml]; rfl) (lenOf own_pd6 rfl) rfl (by show 2 * 0 + _ ≤ _; exact Nat.le_of_eq rfl) (hb hby own_d1_88) (fun T517 h519 v520 Y518 q521 => ?_)
     obtain ⟨m522, rfl, rfl⟩ := q521
     show own_Ends _ _ _ _ (T517.setTop (mkF m 91 #[.val (.ref r0), .val (.int (1 : Int32)), .val (.ref b504), .val (.long (0 : Int64)), .second, .val (.int (1 : Int32)), .val (.int (1 : Int32))] [(.long m522), (.long (0 : Int64))]))
     refine own_st (fun t_ => XS.ladd (own_here Y518) hx rfl (hb hby own_d1_91) rfl) ?_
     show own_Ends _ _ _ _ (T517.setTop (mkF m 92 #[.val (.ref r0), .val (.int (1 : Int32)), .val (.ref b504), .val (.long (0 : Int64)), .second, .val (.int (1 : Int32)), .val (.int (1 : Int32))] [(.long ((0 : Int64) + m522))]))
     refine own_st (fun t_ => XS.lstoreN (own_here Y518) hx rfl (hb hby own_d1_92) rfl (l' := #[.val (.ref r0), .val (.int (1 : Int32)), .val (.ref b504), .val (.long ((0 : Int64) + m522)), .second, .val (.int (1 : Int32)), .val (.int (1 : Int32))]) rfl) ?_
     show own_Ends _ _ _ _ (T517.setTop (mkF m 93 #[.val (.ref r0), .val (.int (1 : Int32)), .val (.ref b504), .val (.long ((0 : Int64) + m522)), .second, .val (.int (1 : Int32)), .val (.int (1 : Int32))] []))
     refine own_st (fun t_ => XS.iinc (own_here Y518) hx rfl (hb hby own_d1_93) rfl (l' := #[.val (.ref r0), .val (.int (1 : Int32)), .val (.ref b504), .val (.long ((0 : Int64) + m522)), .second, .val (.int (1 : Int32)), .val (.int (2 : Int32))]) rfl) ?_
     show own_Ends _ _ _ _ (T517.setTop (mkF m 96 #[.val (.ref r0), .val (.int (1 : Int32)), .val (.ref b504), .val (.long ((0 : Int64) + m522)), .second, .val (.int (1 : Int32)), .val (.int (2 : Int32))] []))
     refine own_st (fun t_ => XS.goto (own_here Y518) hx rfl (pc0 := 96) (pc' := 48) rfl (hb hby own_d1_96) (by decide) (by decide)) ?_
     show own_Ends _ _ _ _ (T517.setTop (mkF m 48 #[.val (.ref r0), .val (.int (1 : Int32)), .val (.ref b504), .val (.long ((0 : Int64) + m522)), .second, .val (.int (1 : Int32)), .val (.int (2 : Int32))] []))
     refine own_st (fun t_ => XS.iload (own_here Y518) hx rfl (hb hby own_d1_48) rfl) ?_
     show own_Ends _ _ _ _ (T517.setTop (mkF m 50 #[.val (.ref r0), .val (.int (1 : Int32)), .val (.ref b504), .val (.long ((0 : Int64) + m522)), .second, .val (.int (1 : Int32)), .val (.int (2 : Int32))] [(.int (2 : Int32))]))
     refine own_st (fun t_ => XS.aloadN (own_here Y518) hx rfl (hb hby own_d1_50) rfl rfl) ?_
     show own_Ends _ _ _ _ (T517.setTop (mkF m 51 #[.val (.ref r0), .val (.int (1 : Int32)), .val (.ref b504), .val (.long ((0 : Int64) + m522)), .second, .val (.int (1 : Int32)), .val (.int (2 : Int32))] [(.ref r0), (.int (2 : Int32))]))
     refine own_len Y518 hx hZ f516 (z := (3 : Int32)) rfl rfl rfl (hb hby own_d1_51) ?_
     show own_Ends _ _ _ _ (T517.setTop (mkF m 52 #[.val (.ref r0), .val (.int (1 : Int32)), .val (.ref b504), .val (.long ((0 : Int64) + m522)), .second, .val (.int (1 : Int32)), .val (.int (2 : Int32))] [(.int (3 : Int32)), (.int (2 : Int32))]))
     refine own_st (fun t_ => XS.icmpNo (own_here Y518) hx rfl (hb hby own_d1_52) rfl (XT.ii_ge_f (by decide))) ?_
     show own_Ends _ _ _ _ (T517.setTop (mkF m 55 #[.val (.ref r0), .val (.int (1 : Int32)), .val (.ref b504), .val (.long ((0 : Int64) + m522)), .second, .val (.int (1 : Int32)), .val (.int (2 : Int32))] []))
     refine own_st (fun t_ => XS.aloadN (own_here Y518) hx rfl (hb hby own_d1_55) rfl rfl) ?_
     show own_Ends _ _ _ _ (T517.setTop (mkF m 56 #[.val (.ref r0), .val (.int (1 : Int32)), .val (.ref b504), .val (.long ((0 : Int64) + m522)), .second, .val (.int (1 : Int32)), .val (.int (2 : Int32))] [(.ref r0)]))
     refine own_st (fun t_ => XS.iload (own_here Y518) hx rfl (hb hby own_d1_56) rfl) ?_
     show own_Ends _ _ _ _ (T517.setTop (mkF m 58 #[.val (.ref r0), .val (.int (1 : Int32)), .val (.ref b504), .val (.long ((0 : Int64) + m522)), .second, .val (.int (1 : Int32)), .val (.int (2 : Int32))] [(.int (2 : Int32)), (.ref r0)]))
     refine own_ldI Y518 hx hZ f516 (i := 2) (by decide) (by decide) (Nat.le_of_ble_eq_true rfl) (v := (.int t2)) rfl rfl rfl (hb hby own_d1_58) ?_
     show own_Ends _ _ _ _ (T517.setTop (mkF m 59 #[.val (.ref r0), .val (.int (1 : Int32)), .val (.ref b504), .val (.long ((0 : Int64) + m522)), .second, .val (.int (1 : Int32)), .val (.int (2 : Int32))] [(.int t2)]))
     refine own_st (fun t_ => XS.ifYes (own_here Y518) hx rfl (pc0 := 59) (pc' := 93) rfl (hb hby own_d1_59) rfl (XT.i0_le_t c24_427) (by decide) (by decide)) ?_
     show own_Ends _ _ _ _ (T517.setTop (mkF m 93 #[.val (.ref r0), .val (.int (1 : Int32)), .val (.ref b504), .val (.long ((0 : Int64) + m522)), .second, .val (.int (1 : Int32)), .val (.int (2 : Int32))] []))
     refine own_st (fun t_ => XS.iinc (own_here Y518) hx rfl (hb hby own_d1_93) rfl (l' := #[.val (.ref r0), .val (.int (1 : Int32)), .val (.ref b504), .val (.long ((0 : Int64) + m522)), .second, .val (.int (1 : Int32)), .val (.int (3 : Int32))]) rfl) ?_
     show own_Ends _ _ _ _ (T517.setTop (mkF m 96 #[.val (.ref r0), .val (.int (1 : Int32)), .val (.ref b504), .val (.long ((0 : Int64) + m522)), .second, .val (.int (1 : Int32)), .val (.int (3 : Int32))] []))
     refine own_st (fun t_ => XS.goto (own_here Y518) hx rfl (pc0 := 96) (pc' := 48) rfl (hb hby own_d1_96) (by decide) (by decide)) ?_
     show own_Ends _ _ _ _ (T517.setTop (mkF m 48 #[.val (.ref r0), .val (.int (1 : Int32)), .val (.ref b504), .val (.long ((0 : Int64) + m522)), .second, .val (.int (1 : Int32)), .val (.int (3 : Int32))] []))
     refine own_st (fun t_ => XS.iload (own_here Y518) hx rfl (hb hby own_d1_48) rfl) ?_
     show own_Ends _ _ _ _ (T517.setTop (mkF m 50 #[.val (.ref r0), .val (.int (1 : Int32)), .val (.ref b504), .val (.long ((0 : Int64) + m522)), .second, .val (.int (1 : Int32)), .val (.int (3 : Int32))] [(.int (3 : Int32))]))
     refine own_st (fun t_ => XS.aloadN (own_here Y518) hx rfl (hb hby own_d1_50) rfl rfl) ?_
     show own_Ends _ _ _ _ (T517.setTop (mkF m 51 #[.val (.ref r0), .val (.int (1 : Int32)), .val (.ref b504), .val (.long ((0 : Int64) + m522)), .second, .val (.int (1 : Int32)), .val (.int (3 : Int32))] [(.ref r0), (.int (3 : Int32))]))
     refine own_len Y518 hx hZ f516 (z := (3 : Int32)) rfl rfl rfl (hb hby own_d1_51) ?_
     show own_Ends _ _ _ _ (T517.setTop (mkF m 52 #[.val (.ref r0), .val (.int (1 : Int32)), .val (.ref b504), .val (.long ((0 : Int64) + m522)), .second, .val (.int (1 : Int32)), .val (.int (3 : Int32))] [(.int (3 : Int32)), (.int (3 : Int32))]))
     refine own_st (fun t_ => XS.icmpYes (own_here Y518) hx rfl (pc0 := 52) (pc' := 99) rfl (hb hby own_d1_52) rfl (XT.ii_ge_t (by decide)) (by decide) (by decide)) ?_
     show own_Ends _ _ _ _ (T517.setTop (mkF m 99 #[.val (.ref r0), .val (.int (1 : Int32)), .val (.ref b504), .val (.long ((0 : Int64) + m522)), .second, .val (.int (1 : Int32)), .val (.int (3 : Int32))] []))
     refine own_new Y518 hx hZ hown (hw _ (List.mem_of_getElem? (i := 14) rfl)) (hw _ (List.mem_of_getElem? (i := 15) rfl)) (hw _ (List.mem_of_getElem? (i := 4) rfl)) rfl (hb hby own_d1_99) (by decide) (by decide) (fun T523 h525 b529 eb530 Y524 E526 X527 D528 => ?_)
     have ne531 : r0 ≠ b529 := Nat.ne_of_lt (by rw [eb530]; exact f516.lt)
     have ne532 : b504 ≠ b529 := Nat.ne_of_lt (by rw [eb530]; exact F515.lt)
     have z534 : n0 ≤ h501.size := Nat.le_trans Z0 E502.1
     have z535 : n0 ≤ h511.size := Nat.le_trans z534 K514.1
     have g533 : n0 ≤ b529 := by rw [eb530]; exact z535
     have F536 : Fld Z h525 b529 "com/example/poset/poset/core/Marking" "size" "I" (.int (0 : Int32)) := D528 _ _ _ .int (Or.inr (hw _ (List.mem_of_getElem? (i := 23) rfl))) (by decide)
     have F537 : Fld Z h525 b529 "com/example/poset/poset/core/Marking" "entries" "[J" .null := D528 _ _ _ (.array .long) (Or.inr (hw _ (List.mem_of_getElem? (i := 25) rfl))) (by decide)
     have F538 : Fld Z h525 b529 "com/example/poset/poset/core/Marking" "wide" "Z" (.int (0 : Int32)) := D528 _ _ _ .boolean (Or.inr (hw _ (List.mem_of_getElem? (i := 27) rfl))) (by decide)
     have F539 : Fld Z h525 b529 "com/example/poset/poset/core/Marking" "mixed" "J" (.long (0 : Int64)) := D528 _ _ _ .long (Or.inr (hw _ (List.mem_of_getElem? (i := 29) rfl))) (by decide)
     show own_Ends _ _ _ _ (T523.setTop (mkF m 102 #[.val (.ref r0), .val (.int (1 : Int32)), .val (.ref b504), .val (.long ((0 : Int64) + m522)), .second, .val (.int (1 : Int32)), .val (.int (3 : Int32))] [(.ref b529)]))
     refine own_st (fun t_ => XS.dup (own_here Y524) hx rfl (hb hby own_d1_102) rfl rfl) ?_
     show own_Ends _ _ _ _ (T523.setTop (mkF m 103 #[.val (.ref r0), .val (.int (1 : Int32)), .val (.ref b504), .val (.long ((0 : Int64) + m522)), .second, .val (.int (1 : Int32)), .val (.int (3 : Int32))] [(.ref b529), (.ref b529)]))
     refine own_st (fun t_ => XS.aloadN (own_here Y524) hx rfl (hb hby own_d1_103) rfl rfl) ?_
     show own_Ends _ _ _ _ (T523.setTop (mkF m 104 #[.val (.ref r0), .val (.int (1 : Int32)), .val (.ref b504), .val (.long ((0 : Int64) + m522)), .second, .val (.int (1 : Int32)), .val (.int (3 : Int32))] [(.ref r0), (.ref b529), (.ref b529)]))
     have f540 : own_A Z h525 r0 .int [(.int t0), (.int t1), (.int t2)] := f516.ext E526
     refine own_len Y524 hx hZ f540 (z := (3 : Int32)) rfl rfl rfl (hb hby own_d1_104) ?_
     show own_Ends _ _ _ _ (T523.setTop (mkF m 105 #[.val (.ref r0), .val (.int (1 : Int32)), .val (.ref b504), .val (.long ((0 : Int64) + m522)), .second, .val (.int (1 : Int32)), .val (.int (3 : Int32))] [(.int (3 : Int32)), (.ref b529), (.ref b529)]))
     refine own_st (fun t_ => XS.aloadN (own_here Y524) hx rfl (hb hby own_d1_105) rfl rfl) ?_
     show own_Ends _ _ _ _ (T523.setTop (mkF m 106 #[.val (.ref r0), .val (.int (1 : Int32)), .val (.ref b504), .val (.long ((0 : Int64) + m522)), .second, .val (.int (1 : Int32)), .val (.int (3 : Int32))] [(.ref b504), (.int (3 : Int32)), (.ref b529), (.ref b529)]))
     refine own_st (fun t_ => XS.iconst (own_here Y524) hx rfl (hb hby own_d1_106) ) ?_
     show own_Ends _ _ _ _ (T523.setTop (mkF m 107 #[.val (.ref r0), .val (.int (1 : Int32)), .val (.ref b504), .val (.long ((0 : Int64) + m522)), .second, .val (.int (1 : Int32)), .val (.int (3 : Int32))] [(.int (0 : Int32)), (.ref b504), (.int (3 : Int32)), (.ref b529), (.ref b529)]))
     refine own_st (fun t_ => XS.lloadN (own_here Y524) hx rfl (hb hby own_d1_107) rfl) ?_
     show own_Ends _ _ _ _ (T523.setTop (mkF m 108 #[.val (.ref r0), .val (.int (1 : Int32)), .val (.ref b504), .val (.long ((0 : Int64) + m522)), .second, .val (.int (1 : Int32)), .val (.int (3 : Int32))] [(.long ((0 : Int64) + m522)), (.int (0 : Int32)), (.ref b504), (.int (3 : Int32)), (.ref b529), (.ref b529)]))
     refine own_callN Y524 hx hZ (y := (⟨"com/example/poset/poset/core/Marking", "<init>", "(I[JZJ)V"⟩ : MethodName)) rfl hown (hw _ (List.mem_of_getElem? (i := 16) rfl)) (hw _ (List.mem_of_getElem? (i := 17) rfl)) (hw _ (List.mem_of_getElem? (i := 4) rfl)) (hw _ (List.mem_of_getElem? (i := 18) rfl)) (by decide) (a := b529) (argsL := [(.int (3 : Int32)), (.ref b504), (.int (0 : Int32)), (.long ((0 : Int64) + m522))]) (rest := [(.ref b529)]) (own_rm4 l Z a0 hw [] b529 (3 : Int32) b504 ((0 : Int64) + m522)  h525 n0  X527 F536 F537 F538 F539 g533) (W := 1) (by decide) (by decide) (by decide) (by decide) rfl (by rw [hml]; rfl) (lenOf own_pd7 rfl) rfl (by show 2 * 0 + _ ≤ _; exact Nat.le_of_eq rfl) (hb hby own_d1_108) (fun T541 h543 v544 Y542 q545 => ?_)
     obtain ⟨rfl, K546, F547, F548, F549⟩ := q545
     show own_Ends _ _ _ _ (T541.setTop (mkF m 111 #[.val (.ref r0), .val (.int (1 : Int32)), .val (.ref b504), .val (.long ((0 : Int64) + m522)), .second, .val (.int (1 : Int32)), .val (.int (3 : Int32))] [(.ref b529)]))
     have z550 : n0 ≤ h525.size := Nat.le_trans z535 E526.1
     have z551 : n0 ≤ h543.size := Nat.le_trans z550 K546.1
     have f552 : own_A Z h525 b504 .long [(.long (own_E (1 : Int32) t1))] := F515.ext E526
     have f553 : own_A Z h543 b504 .long [(.long (own_E (1 : Int32) t1))] := f552.keep K546 (ninS ne532 nin0)
     have hes : own_es t0 t1 t2 = [(own_E (1 : Int32) t1)] := by simp [own_es, c24_138, c24_426, c24_427]
     have f554 : Exa Z h543 b529 "com/example/poset/poset/core/Marking" := X527.keep K546
     refine own_retA Y542 hx hlk hret rfl rfl rfl (hb hby own_d1_111) (by decide) (by decide) ?_
     exact ⟨_, _, rfl, z551, f554, F547, F548, F549, by rw [hes]; exact f553⟩
   ·
    refine own_st (fun t_ => XS.ifYes (own_here Y0) hx rfl (pc0 := 24) (pc' := 30) rfl (hb hby own_d1_24) rfl (XT.i0_le_t c24_426) (by decide) (by decide)) ?_
    show own_Ends _ _ _ _ (T0.setTop (mkF m 30 #[.val (.ref r0), .val (.int (0 : Int32)), .val (.ref r0), .val (.int (3 : Int32)), .val (.int (1 : Int32)), .val (.int t1), .unset] []))
    refine own_st (fun t_ => XS.iinc (own_here Y0) hx rfl (hb hby own_d1_30) rfl (l' := #[.val (.ref r0), .val (.int (0 : Int32)), .val (.ref r0), .val (.int (3 : Int32)), .val (.int (2 : Int32)), .val (.int t1), .unset]) rfl) ?_
    show own_Ends _ _ _ _ (T0.setTop (mkF m 33 #[.val (.ref r0), .val (.int (0 : Int32)), .val (.ref r0), .val (.int (3 : Int32)), .val (.int (2 : Int32)), .val (.int t1), .unset] []))
    refine own_st (fun t_ => XS.goto (own_here Y0) hx rfl (pc0 := 33) (pc' := 10) rfl (hb hby own_d1_33) (by decide) (by decide)) ?_
    show own_Ends _ _ _ _ (T0.setTop (mkF m 10 #[.val (.ref r0), .val (.int (0 : Int32)), .val (.ref r0), .val (.int (3 : Int32)), .val (.int (2 : Int32)), .val (.int t1), .unset] []))
    refine own_st (fun t_ => XS.iload (own_here Y0) hx rfl (hb hby own_d1_10) rfl) ?_
    show own_Ends _ _ _ _ (T0.setTop (mkF m 12 #[.val (.ref r0), .val (.int (0 : Int32)), .val (.ref r0), .val (.int (3 : Int32)), .val (.int (2 : Int32)), .val (.int t1), .unset] [(.int (2 : Int32))]))
    refine own_st (fun t_ => XS.iloadN (own_here Y0) hx rfl (hb hby own_d1_12) rfl) ?_
    show own_Ends _ _ _ _ (T0.setTop (mkF m 13 #[.val (.ref r0), .val (.int (0 : Int32)), .val (.ref r0), .val (.int (3 : Int32)), .val (.int (2 : Int32)), .val (.int t1), .unset] [(.int (3 : Int32)), (.int (2 : Int32))]))
    refine own_st (fun t_ => XS.icmpNo (own_here Y0) hx rfl (hb hby own_d1_13) rfl (XT.ii_ge_f (by decide))) ?_
    show own_Ends _ _ _ _ (T0.setTop (mkF m 16 #[.val (.ref r0), .val (.int (0 : Int32)), .val (.ref r0), .val (.int (3 : Int32)), .val (.int (2 : Int32)), .val (.int t1), .unset] []))
    refine own_st (fun t_ => XS.aloadN (own_here Y0) hx rfl (hb hby own_d1_16) rfl rfl) ?_
    show own_Ends _ _ _ _ (T0.setTop (mkF m 17 #[.val (.ref r0), .val (.int (0 : Int32)), .val (.ref r0), .val (.int (3 : Int32)), .val (.int (2 : Int32)), .val (.int t1), .unset] [(.ref r0)]))
    refine own_st (fun t_ => XS.iload (own_here Y0) hx rfl (hb hby own_d1_17) rfl) ?_
    show own_Ends _ _ _ _ (T0.setTop (mkF m 19 #[.val (.ref r0), .val (.int (0 : Int32)), .val (.ref r0), .val (.int (3 : Int32)), .val (.int (2 : Int32)), .val (.int t1), .unset] [(.int (2 : Int32)), (.ref r0)]))
    refine own_ldI Y0 hx hZ A (i := 2) (by decide) (by decide) (Nat.le_of_ble_eq_true rfl) (v := (.int t2)) rfl rfl rfl (hb hby own_d1_19) ?_
    show own_Ends _ _ _ _ (T0.setTop (mkF m 20 #[.val (.ref r0), .val (.int (0 : Int32)), .val (.ref r0), .val (.int (3 : Int32)), .val (.int (2 : Int32)), .val (.int t1), .unset] [(.int t2)]))
    refine own_st (fun t_ => XS.istore (own_here Y0) hx rfl (hb hby own_d1_20) rfl (l' := #[.val (.ref r0), .val (.int (0 : Int32)), .val (.ref r0), .val (.int (3 : Int32)), .val (.int (2 : Int32)), .val (.int t2), .unset]) rfl) ?_
    show own_Ends _ _ _ _ (T0.setTop (mkF m 22 #[.val (.ref r0), .val (.int (0 : Int32)), .val (.ref r0), .val (.int (3 : Int32)), .val (.int (2 : Int32)), .val (.int t2), .unset] []))
    refine own_st (fun t_ => XS.iload (own_here Y0) hx rfl (hb hby own_d1_22) rfl) ?_
    show own_Ends _ _ _ _ (T0.setTop (mkF m 24 #[.val (.ref r0), .val (.int (0 : Int32)), .val (.ref r0), .val (.int (3 : Int32)), .val (.int (2 : Int32)), .val (.int t2), .unset] [(.int t2)]))
    by_cases c24_555 : (0 : Int32) < t2
    ·
     refine own_st (fun t_ => XS.ifNo (own_here Y0) hx rfl (hb hby own_d1_24) rfl (XT.i0_le_f c24_555)) ?_
     show own_Ends _ _ _ _ (T0.setTop (mkF m 27 #[.val (.ref r0), .val (.int (0 : Int32)), .val (.ref r0), .val (.int (3 : Int32)), .val (.int (2 : Int32)), .val (.int t2), .unset] []))
     refine own_st (fun t_ => XS.iinc (own_here Y0) hx rfl (hb hby own_d1_27) rfl (l' := #[.val (.ref r0), .val (.int (1 : Int32)), .val (.ref r0), .val (.int (3 : Int32)), .val (.int (2 : Int32)), .val (.int t2), .unset]) rfl) ?_
     show own_Ends _ _ _ _ (T0.setTop (mkF m 30 #[.val (.ref r0), .val (.int (1 : Int32)), .val (.ref r0), .val (.int (3 : Int32)), .val (.int (2 : Int32)), .val (.int t2), .unset] []))
     refine own_st (fun t_ => XS.iinc (own_here Y0) hx rfl (hb hby own_d1_30) rfl (l' := #[.val (.ref r0), .val (.int (1 : Int32)), .val (.ref r0), .val (.int (3 : Int32)), .val (.int (3 : Int32)), .val (.int t2), .unset]) rfl) ?_
     show own_Ends _ _ _ _ (T0.setTop (mkF m 33 #[.val (.ref r0), .val (.int (1 : Int32)), .val (.ref r0), .val (.int (3 : Int32)), .val (.int (3 : Int32)), .val (.int t2), .unset] []))
     refine own_st (fun t_ => XS.goto (own_here Y0) hx rfl (pc0 := 33) (pc' := 10) rfl (hb hby own_d1_33) (by decide) (by decide)) ?_
     show own_Ends _ _ _ _ (T0.setTop (mkF m 10 #[.val (.ref r0), .val (.int (1 : Int32)), .val (.ref r0), .val (.int (3 : Int32)), .val (.int (3 : Int32)), .val (.int t2), .unset] []))
     refine own_st (fun t_ => XS.iload (own_here Y0) hx rfl (hb hby own_d1_10) rfl) ?_
     show own_Ends _ _ _ _ (T0.setTop (mkF m 12 #[.val (.ref r0), .val (.int (1 : Int32)), .val (.ref r0), .val (.int (3 : Int32)), .val (.int (3 : Int32)), .val (.int t2), .unset] [(.int (3 : Int32))]))
     refine own_st (fun t_ => XS.iloadN (own_here Y0) hx rfl (hb hby own_d1_12) rfl) ?_
     show own_Ends _ _ _ _ (T0.setTop (mkF m 13 #[.val (.ref r0), .val (.int (1 : Int32)), .val (.ref r0), .val (.int (3 : Int32)), .val (.int (3 : Int32)), .val (.int t2), .unset] [(.int (3 : Int32)), (.int (3 : Int32))]))
     refine own_st (fun t_ => XS.icmpYes (own_here Y0) hx rfl (pc0 := 13) (pc' := 36) rfl (hb hby own_d1_13) rfl (XT.ii_ge_t (by decide)) (by decide) (by decide)) ?_
     show own_Ends _ _ _ _ (T0.setTop (mkF m 36 #[.val (.ref r0), .val (.int (1 : Int32)), .val (.ref r0), .val (.int (3 : Int32)), .val (.int (3 : Int32)), .val (.int t2), .unset] []))
     refine own_st (fun t_ => XS.iloadN (own_here Y0) hx rfl (hb hby own_d1_36) rfl) ?_
     show own_Ends _ _ _ _ (T0.setTop (mkF m 37 #[.val (.ref r0), .val (.int (1 : Int32)), .val (.ref r0), .val (.int (3 : Int32)), .val (.int (3 : Int32)), .val (.int t2), .unset] [(.int (1 : Int32))]))
     refine own_newP Y0 hx hZ (hw _ (List.mem_of_getElem? (i := 6) rfl)) rfl (hb hby own_d1_37) rfl (by decide) (nz := 1) (cap := 1) (by decide) (by decide) (by decide) (by decide) (by decide) (ty := .long) rfl (fun T556 h558 b561 eb562 Y557 E559 A560 => ?_)
     have ne563 : r0 ≠ b561 := Nat.ne_of_lt (by rw [eb562]; exact A.lt)
     have g564 : n0 ≤ b561 := by rw [eb562]; exact Z0
     replace A560 : own_A Z h558 b561 .long [(.long (0 : Int64))] := A560
     show own_Ends _ _ _ _ (T556.setTop (mkF m 39 #[.val (.ref r0), .val (.int (1 : Int32)), .val (.ref r0), .val (.int (3 : Int32)), .val (.int (3 : Int32)), .val (.int t2), .unset] [(.ref b561)]))
     refine own_st (fun t_ => XS.astoreN (own_here Y557) hx rfl (hb hby own_d1_39) rfl rfl (l' := #[.val (.ref r0), .val (.int (1 : Int32)), .val (.ref b561), .val (.int (3 : Int32)), .val (.int (3 : Int32)), .val (.int t2), .unset]) rfl) ?_
     show own_Ends _ _ _ _ (T556.setTop (mkF m 40 #[.val (.ref r0), .val (.int (1 : Int32)), .val (.ref b561), .val (.int (3 : Int32)), .val (.int (3 : Int32)), .val (.int t2), .unset] []))
     refine own_st (fun t_ => XS.lconst (own_here Y557) hx rfl (hb hby own_d1_40) ) ?_
     show own_Ends _ _ _ _ (T556.setTop (mkF m 41 #[.val (.ref r0), .val (.int (1 : Int32)), .val (.ref b561), .val (.int (3 : Int32)), .val (.int (3 : Int32)), .val (.int t2), .unset] [(.long (0 : Int64))]))
     refine own_st (fun t_ => XS.lstoreN (own_here Y557) hx rfl (hb hby own_d1_41) rfl (l' := #[.val (.ref r0), .val (.int (1 : Int32)), .val (.ref b561), .val (.long (0 : Int64)), .second, .val (.int t2), .unset]) rfl) ?_
     show own_Ends _ _ _ _ (T556.setTop (mkF m 42 #[.val (.ref r0), .val (.int (1 : Int32)), .val (.ref b561), .val (.long (0 : Int64)), .second, .val (.int t2), .unset] []))
     refine own_st (fun t_ => XS.iconst (own_here Y557) hx rfl (hb hby own_d1_42) ) ?_
     show own_Ends _ _ _ _ (T556.setTop (mkF m 43 #[.val (.ref r0), .val (.int (1 : Int32)), .val (.ref b561), .val (.long (0 : Int64)), .second, .val (.int t2), .unset] [(.int (0 : Int32))]))
     refine own_st (fun t_ => XS.istore (own_here Y557) hx rfl (hb hby own_d1_43) rfl (l' := #[.val (.ref r0), .val (.int (1 : Int32)), .val (.ref b561), .val (.long (0 : Int64)), .second, .val (.int (0 : Int32)), .unset]) rfl) ?_
     show own_Ends _ _ _ _ (T556.setTop (mkF m 45 #[.val (.ref r0), .val (.int (1 : Int32)), .val (.ref b561), .val (.long (0 : Int64)), .second, .val (.int (0 : Int32)), .unset] []))
     refine own_st (fun t_ => XS.iconst (own_here Y557) hx rfl (hb hby own_d1_45) ) ?_
     show own_Ends _ _ _ _ (T556.setTop (mkF m 46 #[.val (.ref r0), .val (.int (1 : Int32)), .val (.ref b561), .val (.long (0 : Int64)), .second, .val (.int (0 : Int32)), .unset] [(.int (0 : Int32))]))
     refine own_st (fun t_ => XS.istore (own_here Y557) hx rfl (hb hby own_d1_46) rfl (l' := #[.val (.ref r0), .val (.int (1 : Int32)), .val (.ref b561), .val (.long (0 : Int64)), .second, .val (.int (0 : Int32)), .val (.int (0 : Int32))]) rfl) ?_
     show own_Ends _ _ _ _ (T556.setTop (mkF m 48 #[.val (.ref r0), .val (.int (1 : Int32)), .val (.ref b561), .val (.long (0 : Int64)), .second, .val (.int (0 : Int32)), .val (.int (0 : Int32))] []))
     refine own_st (fun t_ => XS.iload (own_here Y557) hx rfl (hb hby own_d1_48) rfl) ?_
     show own_Ends _ _ _ _ (T556.setTop (mkF m 50 #[.val (.ref r0), .val (.int (1 : Int32)), .val (.ref b561), .val (.long (0 : Int64)), .second, .val (.int (0 : Int32)), .val (.int (0 : Int32))] [(.int (0 : Int32))]))
     refine own_st (fun t_ => XS.aloadN (own_here Y557) hx rfl (hb hby own_d1_50) rfl rfl) ?_
     show own_Ends _ _ _ _ (T556.setTop (mkF m 51 #[.val (.ref r0), .val (.int (1 : Int32)), .val (.ref b561), .val (.long (0 : Int64)), .second, .val (.int (0 : Int32)), .val (.int (0 : Int32))] [(.ref r0), (.int (0 : Int32))]))
     have f565 : own_A Z h558 r0 .int [(.int t0), (.int t1), (.int t2)] := A.ext E559
     refine own_len Y557 hx hZ f565 (z := (3 : Int32)) rfl rfl rfl (hb hby own_d1_51) ?_
     show own_Ends _ _ _ _ (T556.setTop (mkF m 52 #[.val (.ref r0), .val (.int (1 : Int32)), .val (.ref b561), .val (.long (0 : Int64)), .second, .val (.int (0 : Int32)), .val (.int (0 : Int32))] [(.int (3 : Int32)), (.int (0 : Int32))]))
     refine own_st (fun t_ => XS.icmpNo (own_here Y557) hx rfl (hb hby own_d1_52) rfl (XT.ii_ge_f (by decide))) ?_
     show own_Ends _ _ _ _ (T556.setTop (mkF m 55 #[.val (.ref r0), .val (.int (1 : Int32)), .val (.ref b561), .val (.long (0 : Int64)), .second, .val (.int (0 : Int32)), .val (.int (0 : Int32))] []))
     refine own_st (fun t_ => XS.aloadN (own_here Y557) hx rfl (hb hby own_d1_55) rfl rfl) ?_
     show own_Ends _ _ _ _ (T556.setTop (mkF m 56 #[.val (.ref r0), .val (.int (1 : Int32)), .val (.ref b561), .val (.long (0 : Int64)), .second, .val (.int (0 : Int32)), .val (.int (0 : Int32))] [(.ref r0)]))
     refine own_st (fun t_ => XS.iload (own_here Y557) hx rfl (hb hby own_d1_56) rfl) ?_
     show own_Ends _ _ _ _ (T556.setTop (mkF m 58 #[.val (.ref r0), .val (.int (1 : Int32)), .val (.ref b561), .val (.long (0 : Int64)), .second, .val (.int (0 : Int32)), .val (.int (0 : Int32))] [(.int (0 : Int32)), (.ref r0)]))
     refine own_ldI Y557 hx hZ f565 (i := 0) (by decide) (by decide) (Nat.le_of_ble_eq_true rfl) (v := (.int t0)) rfl rfl rfl (hb hby own_d1_58) ?_
     show own_Ends _ _ _ _ (T556.setTop (mkF m 59 #[.val (.ref r0), .val (.int (1 : Int32)), .val (.ref b561), .val (.long (0 : Int64)), .second, .val (.int (0 : Int32)), .val (.int (0 : Int32))] [(.int t0)]))
     refine own_st (fun t_ => XS.ifYes (own_here Y557) hx rfl (pc0 := 59) (pc' := 93) rfl (hb hby own_d1_59) rfl (XT.i0_le_t c24_138) (by decide) (by decide)) ?_
     show own_Ends _ _ _ _ (T556.setTop (mkF m 93 #[.val (.ref r0), .val (.int (1 : Int32)), .val (.ref b561), .val (.long (0 : Int64)), .second, .val (.int (0 : Int32)), .val (.int (0 : Int32))] []))
     refine own_st (fun t_ => XS.iinc (own_here Y557) hx rfl (hb hby own_d1_93) rfl (l' := #[.val (.ref r0), .val (.int (1 : Int32)), .val (.ref b561), .val (.long (0 : Int64)), .second, .val (.int (0 : Int32)), .val (.int (1 : Int32))]) rfl) ?_
     show own_Ends _ _ _ _ (T556.setTop (mkF m 96 #[.val (.ref r0), .val (.int (1 : Int32)), .val (.ref b561), .val (.long (0 : Int64)), .second, .val (.int (0 : Int32)), .val (.int (1 : Int32))] []))
     refine own_st (fun t_ => XS.goto (own_here Y557) hx rfl (pc0 := 96) (pc' := 48) rfl (hb hby own_d1_96) (by decide) (by decide)) ?_
     show own_Ends _ _ _ _ (T556.setTop (mkF m 48 #[.val (.ref r0), .val (.int (1 : Int32)), .val (.ref b561), .val (.long (0 : Int64)), .second, .val (.int (0 : Int32)), .val (.int (1 : Int32))] []))
     refine own_st (fun t_ => XS.iload (own_here Y557) hx rfl (hb hby own_d1_48) rfl) ?_
     show own_Ends _ _ _ _ (T556.setTop (mkF m 50 #[.val (.ref r0), .val (.int (1 : Int32)), .val (.ref b561), .val (.long (0 : Int64)), .second, .val (.int (0 : Int32)), .val (.int (1 : Int32))] [(.int (1 : Int32))]))
     refine own_st (fun t_ => XS.aloadN (own_here Y557) hx rfl (hb hby own_d1_50) rfl rfl) ?_
     show own_Ends _ _ _ _ (T556.setTop (mkF m 51 #[.val (.ref r0), .val (.int (1 : Int32)), .val (.ref b561), .val (.long (0 : Int64)), .second, .val (.int (0 : Int32)), .val (.int (1 : Int32))] [(.ref r0), (.int (1 : Int32))]))
     refine own_len Y557 hx hZ f565 (z := (3 : Int32)) rfl rfl rfl (hb hby own_d1_51) ?_
     show own_Ends _ _ _ _ (T556.setTop (mkF m 52 #[.val (.ref r0), .val (.int (1 : Int32)), .val (.ref b561), .val (.long (0 : Int64)), .second, .val (.int (0 : Int32)), .val (.int (1 : Int32))] [(.int (3 : Int32)), (.int (1 : Int32))]))
     refine own_st (fun t_ => XS.icmpNo (own_here Y557) hx rfl (hb hby own_d1_52) rfl (XT.ii_ge_f (by decide))) ?_
     show own_Ends _ _ _ _ (T556.setTop (mkF m 55 #[.val (.ref r0), .val (.int (1 : Int32)), .val (.ref b561), .val (.long (0 : Int64)), .second, .val (.int (0 : Int32)), .val (.int (1 : Int32))] []))
     refine own_st (fun t_ => XS.aloadN (own_here Y557) hx rfl (hb hby own_d1_55) rfl rfl) ?_
     show own_Ends _ _ _ _ (T556.setTop (mkF m 56 #[.val (.ref r0), .val (.int (1 : Int32)), .val (.ref b561), .val (.long (0 : Int64)), .second, .val (.int (0 : Int32)), .val (.int (1 : Int32))] [(.ref r0)]))
     refine own_st (fun t_ => XS.iload (own_here Y557) hx rfl (hb hby own_d1_56) rfl) ?_
     show own_Ends _ _ _ _ (T556.setTop (mkF m 58 #[.val (.ref r0), .val (.int (1 : Int32)), .val (.ref b561), .val (.long (0 : Int64)), .second, .val (.int (0 : Int32)), .val (.int (1 : Int32))] [(.int (1 : Int32)), (.ref r0)]))
     refine own_ldI Y557 hx hZ f565 (i := 1) (by decide) (by decide) (Nat.le_of_ble_eq_true rfl) (v := (.int t1)) rfl rfl rfl (hb hby own_d1_58) ?_
     show own_Ends _ _ _ _ (T556.setTop (mkF m 59 #[.val (.ref r0), .val (.int (1 : Int32)), .val (.ref b561), .val (.long (0 : Int64)), .second, .val (.int (0 : Int32)), .val (.int (1 : Int32))] [(.int t1)]))
     refine own_st (fun t_ => XS.ifYes (own_here Y557) hx rfl (pc0 := 59) (pc' := 93) rfl (hb hby own_d1_59) rfl (XT.i0_le_t c24_426) (by decide) (by decide)) ?_
     show own_Ends _ _ _ _ (T556.setTop (mkF m 93 #[.val (.ref r0), .val (.int (1 : Int32)), .val (.ref b561), .val (.long (0 : Int64)), .second, .val (.int (0 : Int32)), .val (.int (1 : Int32))] []))
     refine own_st (fun t_ => XS.iinc (own_here Y557) hx rfl (hb hby own_d1_93) rfl (l' := #[.val (.ref r0), .val (.int (1 : Int32)), .val (.ref b561), .val (.long (0 : Int64)), .second, .val (.int (0 : Int32)), .val (.int (2 : Int32))]) rfl) ?_
     show own_Ends _ _ _ _ (T556.setTop (mkF m 96 #[.val (.ref r0), .val (.int (1 : Int32)), .val (.ref b561), .val (.long (0 : Int64)), .second, .val (.int (0 : Int32)), .val (.int (2 : Int32))] []))
     refine own_st (fun t_ => XS.goto (own_here Y557) hx rfl (pc0 := 96) (pc' := 48) rfl (hb hby own_d1_96) (by decide) (by decide)) ?_
     show own_Ends _ _ _ _ (T556.setTop (mkF m 48 #[.val (.ref r0), .val (.int (1 : Int32)), .val (.ref b561), .val (.long (0 : Int64)), .second, .val (.int (0 : Int32)), .val (.int (2 : Int32))] []))
     refine own_st (fun t_ => XS.iload (own_here Y557) hx rfl (hb hby own_d1_48) rfl) ?_
     show own_Ends _ _ _ _ (T556.setTop (mkF m 50 #[.val (.ref r0), .val (.int (1 : Int32)), .val (.ref b561), .val (.long (0 : Int64)), .second, .val (.int (0 : Int32)), .val (.int (2 : Int32))] [(.int (2 : Int32))]))
     refine own_st (fun t_ => XS.aloadN (own_here Y557) hx rfl (hb hby own_d1_50) rfl rfl) ?_
     show own_Ends _ _ _ _ (T556.setTop (mkF m 51 #[.val (.ref r0), .val (.int (1 : Int32)), .val (.ref b561), .val (.long (0 : Int64)), .second, .val (.int (0 : Int32)), .val (.int (2 : Int32))] [(.ref r0), (.int (2 : Int32))]))
     refine own_len Y557 hx hZ f565 (z := (3 : Int32)) rfl rfl rfl (hb hby own_d1_51) ?_
     show own_Ends _ _ _ _ (T556.setTop (mkF m 52 #[.val (.ref r0), .val (.int (1 : Int32)), .val (.ref b561), .val (.long (0 : Int64)), .second, .val (.int (0 : Int32)), .val (.int (2 : Int32))] [(.int (3 : Int32)), (.int (2 : Int32))]))
     refine own_st (fun t_ => XS.icmpNo (own_here Y557) hx rfl (hb hby own_d1_52) rfl (XT.ii_ge_f (by decide))) ?_
     show own_Ends _ _ _ _ (T556.setTop (mkF m 55 #[.val (.ref r0), .val (.int (1 : Int32)), .val (.ref b561), .val (.long (0 : Int64)), .second, .val (.int (0 : Int32)), .val (.int (2 : Int32))] []))
     refine own_st (fun t_ => XS.aloadN (own_here Y557) hx rfl (hb hby own_d1_55) rfl rfl) ?_
     show own_Ends _ _ _ _ (T556.setTop (mkF m 56 #[.val (.ref r0), .val (.int (1 : Int32)), .val (.ref b561), .val (.long (0 : Int64)), .second, .val (.int (0 : Int32)), .val (.int (2 : Int32))] [(.ref r0)]))
     refine own_st (fun t_ => XS.iload (own_here Y557) hx rfl (hb hby own_d1_56) rfl) ?_
     show own_Ends _ _ _ _ (T556.setTop (mkF m 58 #[.val (.ref r0), .val (.int (1 : Int32)), .val (.ref b561), .val (.long (0 : Int64)), .second, .val (.int (0 : Int32)), .val (.int (2 : Int32))] [(.int (2 : Int32)), (.ref r0)]))
     refine own_ldI Y557 hx hZ f565 (i := 2) (by decide) (by decide) (Nat.le_of_ble_eq_true rfl) (v := (.int t2)) rfl rfl rfl (hb hby own_d1_58) ?_
     show own_Ends _ _ _ _ (T556.setTop (mkF m 59 #[.val (.ref r0), .val (.int (1 : Int32)), .val (.ref b561), .val (.long (0 : Int64)), .second, .val (.int (0 : Int32)), .val (.int (2 : Int32))] [(.int t2)]))
     refine own_st (fun t_ => XS.ifNo (own_here Y557) hx rfl (hb hby own_d1_59) rfl (XT.i0_le_f c24_555)) ?_
     show own_Ends _ _ _ _ (T556.setTop (mkF m 62 #[.val (.ref r0), .val (.int (1 : Int32)), .val (.ref b561), .val (.long (0 : Int64)), .second, .val (.int (0 : Int32)), .val (.int (2 : Int32))] []))
     refine own_st (fun t_ => XS.aloadN (own_here Y557) hx rfl (hb hby own_d1_62) rfl rfl) ?_
     show own_Ends _ _ _ _ (T556.setTop (mkF m 63 #[.val (.ref r0), .val (.int (1 : Int32)), .val (.ref b561), .val (.long (0 : Int64)), .second, .val (.int (0 : Int32)), .val (.int (2 : Int32))] [(.ref b561)]))
     refine own_st (fun t_ => XS.iconst (own_here Y557) hx rfl (hb hby own_d1_63) ) ?_
     show own_Ends _ _ _ _ (T556.setTop (mkF m 64 #[.val (.ref r0), .val (.int (1 : Int32)), .val (.ref b561), .val (.long (0 : Int64)), .second, .val (.int (0 : Int32)), .val (.int (2 : Int32))] [(.int (0 : Int32)), (.ref b561)]))
     refine own_st (fun t_ => XS.iload (own_here Y557) hx rfl (hb hby own_d1_64) rfl) ?_
     show own_Ends _ _ _ _ (T556.setTop (mkF m 66 #[.val (.ref r0), .val (.int (1 : Int32)), .val (.ref b561), .val (.long (0 : Int64)), .second, .val (.int (0 : Int32)), .val (.int (2 : Int32))] [(.int (0 : Int32)), (.int (0 : Int32)), (.ref b561)]))
     refine own_st (fun t_ => XS.iinc (own_here Y557) hx rfl (hb hby own_d1_66) rfl (l' := #[.val (.ref r0), .val (.int (1 : Int32)), .val (.ref b561), .val (.long (0 : Int64)), .second, .val (.int (1 : Int32)), .val (.int (2 : Int32))]) rfl) ?_
     show own_Ends _ _ _ _ (T556.setTop (mkF m 69 #[.val (.ref r0), .val (.int (1 : Int32)), .val (.ref b561), .val (.long (0 : Int64)), .second, .val (.int (1 : Int32)), .val (.int (2 : Int32))] [(.int (0 : Int32)), (.int (0 : Int32)), (.ref b561)]))
     refine own_st (fun t_ => XS.iload (own_here Y557) hx rfl (hb hby own_d1_69) rfl) ?_
     show own_Ends _ _ _ _ (T556.setTop (mkF m 71 #[.val (.ref r0), .val (.int (1 : Int32)), .val (.ref b561), .val (.long (0 : Int64)), .second, .val (.int (1 : Int32)), .val (.int (2 : Int32))] [(.int (2 : Int32)), (.int (0 : Int32)), (.int (0 : Int32)), (.ref b561)]))
     refine own_st (fun t_ => XS.aloadN (own_here Y557) hx rfl (hb hby own_d1_71) rfl rfl) ?_
     show own_Ends _ _ _ _ (T556.setTop (mkF m 72 #[.val (.ref r0), .val (.int (1 : Int32)), .val (.ref b561), .val (.long (0 : Int64)), .second, .val (.int (1 : Int32)), .val (.int (2 : Int32))] [(.ref r0), (.int (2 : Int32)), (.int (0 : Int32)), (.int (0 : Int32)), (.ref b561)]))
     refine own_st (fun t_ => XS.iload (own_here Y557) hx rfl (hb hby own_d1_72) rfl) ?_
     show own_Ends _ _ _ _ (T556.setTop (mkF m 74 #[.val (.ref r0), .val (.int (1 : Int32)), .val (.ref b561), .val (.long (0 : Int64)), .second, .val (.int (1 : Int32)), .val (.int (2 : Int32))] [(.int (2 : Int32)), (.ref r0), (.int (2 : Int32)), (.int (0 : Int32)), (.int (0 : Int32)), (.ref b561)]))
     refine own_ldI Y557 hx hZ f565 (i := 2) (by decide) (by decide) (Nat.le_of_ble_eq_true rfl) (v := (.int t2)) rfl rfl rfl (hb hby own_d1_74) ?_
     show own_Ends _ _ _ _ (T556.setTop (mkF m 75 #[.val (.ref r0), .val (.int (1 : Int32)), .val (.ref b561), .val (.long (0 : Int64)), .second, .val (.int (1 : Int32)), .val (.int (2 : Int32))] [(.int t2), (.int (2 : Int32)), (.int (0 : Int32)), (.int (0 : Int32)), (.ref b561)]))
     refine own_st (fun t_ => XS.i2l (own_here Y557) hx rfl (hb hby own_d1_75) rfl) ?_
     show own_Ends _ _ _ _ (T556.setTop (mkF m 76 #[.val (.ref r0), .val (.int (1 : Int32)), .val (.ref b561), .val (.long (0 : Int64)), .second, .val (.int (1 : Int32)), .val (.int (2 : Int32))] [(.long (t2.toInt64)), (.int (2 : Int32)), (.int (0 : Int32)), (.int (0 : Int32)), (.ref b561)]))
     refine own_callS Y557 hx hZ (y := (⟨"com/example/poset/poset/core/Marking", "put", "([JZIIJ)V"⟩ : MethodName)) hown (hw _ (List.mem_of_getElem? (i := 7) rfl)) (hw _ (List.mem_of_getElem? (i := 8) rfl)) (hw _ (List.mem_of_getElem? (i := 4) rfl)) (hw _ (List.mem_of_getElem? (i := 9) rfl)) (by decide) (argsL := [(.ref b561), (.int (0 : Int32)), (.int (0 : Int32)), (.int (2 : Int32)), (.long (t2.toInt64))]) (rest := []) (own_rm2_1_0 l Z a0 hw [] b561 (2 : Int32) (t2.toInt64) (0 : Int64) t2 h558 n0  A560 g564 rfl) (W := 0) (by decide) (by decide) (by decide) (by decide) rfl (by rw [hml]; rfl) (lenOf own_pd5 rfl) rfl (by show 2 * 0 + _ ≤ _; exact Nat.le_of_eq rfl) (hb hby own_d1_76) (fun T566 h568 v569 Y567 q570 => ?_)
     obtain ⟨rfl, K571, F572⟩ := q570
     show own_Ends _ _ _ _ (T566.setTop (mkF m 79 #[.val (.ref r0), .val (.int (1 : Int32)), .val (.ref b561), .val (.long (0 : Int64)), .second, .val (.int (1 : Int32)), .val (.int (2 : Int32))] []))
     refine own_st (fun t_ => XS.lloadN (own_here Y567) hx rfl (hb hby own_d1_79) rfl) ?_
     show own_Ends _ _ _ _ (T566.setTop (mkF m 80 #[.val (.ref r0), .val (.int (1 : Int32)), .val (.ref b561), .val (.long (0 : Int64)), .second, .val (.int (1 : Int32)), .val (.int (2 : Int32))] [(.long (0 : Int64))]))
     refine own_st (fun t_ => XS.iload (own_here Y567) hx rfl (hb hby own_d1_80) rfl) ?_
     show own_Ends _ _ _ _ (T566.setTop (mkF m 82 #[.val (.ref r0), .val (.int (1 : Int32)), .val (.ref b561), .val (.long (0 : Int64)), .second, .val (.int (1 : Int32)), .val (.int (2 : Int32))] [(.int (2 : Int32)), (.long (0 : Int64))]))
     refine own_st (fun t_ => XS.i2l (own_here Y567) hx rfl (hb hby own_d1_82) rfl) ?_
     show own_Ends _ _ _ _ (T566.setTop (mkF m 83 #[.val (.ref r0), .val (.int (1 : Int32)), .val (.ref b561), .val (.long (0 : Int64)), .second, .val (.int (1 : Int32)), .val (.int (2 : Int32))] [(.long (2 : Int64)), (.long (0 : Int64))]))
     refine own_st (fun t_ => XS.aloadN (own_here Y567) hx rfl (hb hby own_d1_83) rfl rfl) ?_
     show own_Ends _ _ _ _ (T566.setTop (mkF m 84 #[.val (.ref r0), .val (.int (1 : Int32)), .val (.ref b561), .val (.long (0 : Int64)), .second, .val (.int (1 : Int32)), .val (.int (2 : Int32))] [(.ref r0), (.long (2 : Int64)), (.long (0 : Int64))]))
     refine own_st (fun t_ => XS.iload (own_here Y567) hx rfl (hb hby own_d1_84) rfl) ?_
     show own_Ends _ _ _ _ (T566.setTop (mkF m 86 #[.val (.ref r0), .val (.int (1 : Int32)), .val (.ref b561), .val (.long (0 : Int64)), .second, .val (.int (1 : Int32)), .val (.int (2 : Int32))] [(.int (2 : Int32)), (.ref r0), (.long (2 : Int64)), (.long (0 : Int64))]))
     have f573 : own_A Z h568 r0 .int [(.int t0), (.int t1), (.int t2)] := f565.keep K571 (ninS ne563 nin0)
     refine own_ldI Y567 hx hZ f573 (i := 2) (by decide) (by decide) (Nat.le_of_ble_eq_true rfl) (v := (.int t2)) rfl rfl rfl (hb hby own_d1_86) ?_
     show own_Ends _ _ _ _ (T566.setTop (mkF m 87 #[.val (.ref r0), .val (.int (1 : Int32)), .val (.ref b561), .val (.long (0 : Int64)), .second, .val (.int (1 : Int32)), .val (.int (2 : Int32))] [(.int t2), (.long (2 : Int64)), (.long (0 : Int64))]))
     refine own_st (fun t_ => XS.i2l (own_here Y567) hx rfl (hb hby own_d1_87) rfl) ?_
     show own_Ends _ _ _ _ (T566.setTop (mkF m 88 #[.val (.ref r0), .val (.int (1 : Int32)), .val (.ref b561), .val (.long (0 : Int64)), .second, .val (.int (1 : Int32)), .val (.int (2 : Int32))] [(.long (t2.toInt64)), (.long (2 : Int64)), (.long (0 : Int64))]))
     refine own_callS Y567 hx hZ (y := (⟨"com/example/poset/poset/core/Marking", "mix", "(JJ)J"⟩ : MethodName)) hown (hw _ (List.mem_of_getElem? (i := 10) rfl)) (hw _ (List.mem_of_getElem? (i := 11) rfl)) (hw _ (List.mem_of_getElem? (i := 4) rfl)) (hw _ (List.mem_of_getElem? (i := 12) rfl)) (by decide) (argsL := [(.long (2 : Int64)), (.long (t2.toInt64))]) (rest := [(.long (0 : Int64))]) (own_rm3 l Z a0 hw [] (2 : Int64) (t2.toInt64)  h568 n0  ) (W := 2) (by decide) (by decide) (by decide) (by decide) rfl (by rw [hml]; rfl) (lenOf own_pd6 rfl) rfl (by show 2 * 0 + _ ≤ _; exact Nat.le_of_eq rfl) (hb hby own_d1_88) (fun T574 h576 v577 Y575 q578 => ?_)
     obtain ⟨m579, rfl, rfl⟩ := q578
     show own_Ends _ _ _ _ (T574.setTop (mkF m 91 #[.val (.ref r0), .val (.int (1 : Int32)), .val (.ref b561), .val (.long (0 : Int64)), .second, .val (.int (1 : Int32)), .val (.int (2 : Int32))] [(.long m579), (.long (0 : Int64))]))
     refine own_st (fun t_ => XS.ladd (own_here Y575) hx rfl (hb hby own_d1_91) rfl) ?_
     show own_Ends _ _ _ _ (T574.setTop (mkF m 92 #[.val (.ref r0), .val (.int (1 : Int32)), .val (.ref b561), .val (.long (0 : Int64)), .second, .val (.int (1 : Int32)), .val (.int (2 : Int32))] [(.long ((0 : Int64) + m579))]))
     refine own_st (fun t_ => XS.lstoreN (own_here Y575) hx rfl (hb hby own_d1_92) rfl (l' := #[.val (.ref r0), .val (.int (1 : Int32)), .val (.ref b561), .val (.long ((0 : Int64) + m579)), .second, .val (.int (1 : Int32)), .val (.int (2 : Int32))]) rfl) ?_
     show own_Ends _ _ _ _ (T574.setTop (mkF m 93 #[.val (.ref r0), .val (.int (1 : Int32)), .val (.ref b561), .val (.long ((0 : Int64) + m579)), .second, .val (.int (1 : Int32)), .val (.int (2 : Int32))] []))
     refine own_st (fun t_ => XS.iinc (own_here Y575) hx rfl (hb hby own_d1_93) rfl (l' := #[.val (.ref r0), .val (.int (1 : Int32)), .val (.ref b561), .val (.long ((0 : Int64) + m579)), .second, .val (.int (1 : Int32)), .val (.int (3 : Int32))]) rfl) ?_
     show own_Ends _ _ _ _ (T574.setTop (mkF m 96 #[.val (.ref r0), .val (.int (1 : Int32)), .val (.ref b561), .val (.long ((0 : Int64) + m579)), .second, .val (.int (1 : Int32)), .val (.int (3 : Int32))] []))
     refine own_st (fun t_ => XS.goto (own_here Y575) hx rfl (pc0 := 96) (pc' := 48) rfl (hb hby own_d1_96) (by decide) (by decide)) ?_
     show own_Ends _ _ _ _ (T574.setTop (mkF m 48 #[.val (.ref r0), .val (.int (1 : Int32)), .val (.ref b561), .val (.long ((0 : Int64) + m579)), .second, .val (.int (1 : Int32)), .val (.int (3 : Int32))] []))
     refine own_st (fun t_ => XS.iload (own_here Y575) hx rfl (hb hby own_d1_48) rfl) ?_
     show own_Ends _ _ _ _ (T574.setTop (mkF m 50 #[.val (.ref r0), .val (.int (1 : Int32)), .val (.ref b561), .val (.long ((0 : Int64) + m579)), .second, .val (.int (1 : Int32)), .val (.int (3 : Int32))] [(.int (3 : Int32))]))
     refine own_st (fun t_ => XS.aloadN (own_here Y575) hx rfl (hb hby own_d1_50) rfl rfl) ?_
     show own_Ends _ _ _ _ (T574.setTop (mkF m 51 #[.val (.ref r0), .val (.int (1 : Int32)), .val (.ref b561), .val (.long ((0 : Int64) + m579)), .second, .val (.int (1 : Int32)), .val (.int (3 : Int32))] [(.ref r0), (.int (3 : Int32))]))
     refine own_len Y575 hx hZ f573 (z := (3 : Int32)) rfl rfl rfl (hb hby own_d1_51) ?_
     show own_Ends _ _ _ _ (T574.setTop (mkF m 52 #[.val (.ref r0), .val (.int (1 : Int32)), .val (.ref b561), .val (.long ((0 : Int64) + m579)), .second, .val (.int (1 : Int32)), .val (.int (3 : Int32))] [(.int (3 : Int32)), (.int (3 : Int32))]))
     refine own_st (fun t_ => XS.icmpYes (own_here Y575) hx rfl (pc0 := 52) (pc' := 99) rfl (hb hby own_d1_52) rfl (XT.ii_ge_t (by decide)) (by decide) (by decide)) ?_
     show own_Ends _ _ _ _ (T574.setTop (mkF m 99 #[.val (.ref r0), .val (.int (1 : Int32)), .val (.ref b561), .val (.long ((0 : Int64) + m579)), .second, .val (.int (1 : Int32)), .val (.int (3 : Int32))] []))
     refine own_new Y575 hx hZ hown (hw _ (List.mem_of_getElem? (i := 14) rfl)) (hw _ (List.mem_of_getElem? (i := 15) rfl)) (hw _ (List.mem_of_getElem? (i := 4) rfl)) rfl (hb hby own_d1_99) (by decide) (by decide) (fun T580 h582 b586 eb587 Y581 E583 X584 D585 => ?_)
     have ne588 : r0 ≠ b586 := Nat.ne_of_lt (by rw [eb587]; exact f573.lt)
     have ne589 : b561 ≠ b586 := Nat.ne_of_lt (by rw [eb587]; exact F572.lt)
     have z591 : n0 ≤ h558.size := Nat.le_trans Z0 E559.1
     have z592 : n0 ≤ h568.size := Nat.le_trans z591 K571.1
     have g590 : n0 ≤ b586 := by rw [eb587]; exact z592
     have F593 : Fld Z h582 b586 "com/example/poset/poset/core/Marking" "size" "I" (.int (0 : Int32)) := D585 _ _ _ .int (Or.inr (hw _ (List.mem_of_getElem? (i := 23) rfl))) (by decide)
     have F594 : Fld Z h582 b586 "com/example/poset/poset/core/Marking" "entries" "[J" .null := D585 _ _ _ (.array .long) (Or.inr (hw _ (List.mem_of_getElem? (i := 25) rfl))) (by decide)
     have F595 : Fld Z h582 b586 "com/example/poset/poset/core/Marking" "wide" "Z" (.int (0 : Int32)) := D585 _ _ _ .boolean (Or.inr (hw _ (List.mem_of_getElem? (i := 27) rfl))) (by decide)
     have F596 : Fld Z h582 b586 "com/example/poset/poset/core/Marking" "mixed" "J" (.long (0 : Int64)) := D585 _ _ _ .long (Or.inr (hw _ (List.mem_of_getElem? (i := 29) rfl))) (by decide)
     show own_Ends _ _ _ _ (T580.setTop (mkF m 102 #[.val (.ref r0), .val (.int (1 : Int32)), .val (.ref b561), .val (.long ((0 : Int64) + m579)), .second, .val (.int (1 : Int32)), .val (.int (3 : Int32))] [(.ref b586)]))
     refine own_st (fun t_ => XS.dup (own_here Y581) hx rfl (hb hby own_d1_102) rfl rfl) ?_
     show own_Ends _ _ _ _ (T580.setTop (mkF m 103 #[.val (.ref r0), .val (.int (1 : Int32)), .val (.ref b561), .val (.long ((0 : Int64) + m579)), .second, .val (.int (1 : Int32)), .val (.int (3 : Int32))] [(.ref b586), (.ref b586)]))
     refine own_st (fun t_ => XS.aloadN (own_here Y581) hx rfl (hb hby own_d1_103) rfl rfl) ?_
     show own_Ends _ _ _ _ (T580.setTop (mkF m 104 #[.val (.ref r0), .val (.int (1 : Int32)), .val (.ref b561), .val (.long ((0 : Int64) + m579)), .second, .val (.int (1 : Int32)), .val (.int (3 : Int32))] [(.ref r0), (.ref b586), (.ref b586)]))
     have f597 : own_A Z h582 r0 .int [(.int t0), (.int t1), (.int t2)] := f573.ext E583
     refine own_len Y581 hx hZ f597 (z := (3 : Int32)) rfl rfl rfl (hb hby own_d1_104) ?_
     show own_Ends _ _ _ _ (T580.setTop (mkF m 105 #[.val (.ref r0), .val (.int (1 : Int32)), .val (.ref b561), .val (.long ((0 : Int64) + m579)), .second, .val (.int (1 : Int32)), .val (.int (3 : Int32))] [(.int (3 : Int32)), (.ref b586), (.ref b586)]))
     refine own_st (fun t_ => XS.aloadN (own_here Y581) hx rfl (hb hby own_d1_105) rfl rfl) ?_
     show own_Ends _ _ _ _ (T580.setTop (mkF m 106 #[.val (.ref r0), .val (.int (1 : Int32)), .val (.ref b561), .val (.long ((0 : Int64) + m579)), .second, .val (.int (1 : Int32)), .val (.int (3 : Int32))] [(.ref b561), (.int (3 : Int32)), (.ref b586), (.ref b586)]))
     refine own_st (fun t_ => XS.iconst (own_here Y581) hx rfl (hb hby own_d1_106) ) ?_
     show own_Ends _ _ _ _ (T580.setTop (mkF m 107 #[.val (.ref r0), .val (.int (1 : Int32)), .val (.ref b561), .val (.long ((0 : Int64) + m579)), .second, .val (.int (1 : Int32)), .val (.int (3 : Int32))] [(.int (0 : Int32)), (.ref b561), (.int (3 : Int32)), (.ref b586), (.ref b586)]))
     refine own_st (fun t_ => XS.lloadN (own_here Y581) hx rfl (hb hby own_d1_107) rfl) ?_
     show own_Ends _ _ _ _ (T580.setTop (mkF m 108 #[.val (.ref r0), .val (.int (1 : Int32)), .val (.ref b561), .val (.long ((0 : Int64) + m579)), .second, .val (.int (1 : Int32)), .val (.int (3 : Int32))] [(.long ((0 : Int64) + m579)), (.int (0 : Int32)), (.ref b561), (.int (3 : Int32)), (.ref b586), (.ref b586)]))
     refine own_callN Y581 hx hZ (y := (⟨"com/example/poset/poset/core/Marking", "<init>", "(I[JZJ)V"⟩ : MethodName)) rfl hown (hw _ (List.mem_of_getElem? (i := 16) rfl)) (hw _ (List.mem_of_getElem? (i := 17) rfl)) (hw _ (List.mem_of_getElem? (i := 4) rfl)) (hw _ (List.mem_of_getElem? (i := 18) rfl)) (by decide) (a := b586) (argsL := [(.int (3 : Int32)), (.ref b561), (.int (0 : Int32)), (.long ((0 : Int64) + m579))]) (rest := [(.ref b586)]) (own_rm4 l Z a0 hw [] b586 (3 : Int32) b561 ((0 : Int64) + m579)  h582 n0  X584 F593 F594 F595 F596 g590) (W := 1) (by decide) (by decide) (by decide) (by decide) rfl (by rw [hml]; rfl) (lenOf own_pd7 rfl) rfl (by show 2 * 0 + _ ≤ _; exact Nat.le_of_eq rfl) (hb hby own_d1_108) (fun T598 h600 v601 Y599 q602 => ?_)
     obtain ⟨rfl, K603, F604, F605, F606⟩ := q602
     show own_Ends _ _ _ _ (T598.setTop (mkF m 111 #[.val (.ref r0), .val (.int (1 : Int32)), .val (.ref b561), .val (.long ((0 : Int64) + m579)), .second, .val (.int (1 : Int32)), .val (.int (3 : Int32))] [(.ref b586)]))
     have z607 : n0 ≤ h582.size := Nat.le_trans z592 E583.1
     have z608 : n0 ≤ h600.size := Nat.le_trans z607 K603.1
     have f609 : own_A Z h582 b561 .long [(.long (own_E (2 : Int32) t2))] := F572.ext E583
     have f610 : own_A Z h600 b561 .long [(.long (own_E (2 : Int32) t2))] := f609.keep K603 (ninS ne589 nin0)
     have hes : own_es t0 t1 t2 = [(own_E (2 : Int32) t2)] := by simp [own_es, c24_138, c24_426, c24_555]
     have f611 : Exa Z h600 b586 "com/example/poset/poset/core/Marking" := X584.keep K603
     refine own_retA Y599 hx hlk hret rfl rfl rfl (hb hby own_d1_111) (by decide) (by decide) ?_
     exact ⟨_, _, rfl, z608, f611, F604, F605, F606, by rw [hes]; exact f610⟩
    ·
     refine own_st (fun t_ => XS.ifYes (own_here Y0) hx rfl (pc0 := 24) (pc' := 30) rfl (hb hby own_d1_24) rfl (XT.i0_le_t c24_555) (by decide) (by decide)) ?_
     show own_Ends _ _ _ _ (T0.setTop (mkF m 30 #[.val (.ref r0), .val (.int (0 : Int32)), .val (.ref r0), .val (.int (3 : Int32)), .val (.int (2 : Int32)), .val (.int t2), .unset] []))
     refine own_st (fun t_ => XS.iinc (own_here Y0) hx rfl (hb hby own_d1_30) rfl (l' := #[.val (.ref r0), .val (.int (0 : Int32)), .val (.ref r0), .val (.int (3 : Int32)), .val (.int (3 : Int32)), .val (.int t2), .unset]) rfl) ?_
     show own_Ends _ _ _ _ (T0.setTop (mkF m 33 #[.val (.ref r0), .val (.int (0 : Int32)), .val (.ref r0), .val (.int (3 : Int32)), .val (.int (3 : Int32)), .val (.int t2), .unset] []))
     refine own_st (fun t_ => XS.goto (own_here Y0) hx rfl (pc0 := 33) (pc' := 10) rfl (hb hby own_d1_33) (by decide) (by decide)) ?_
     show own_Ends _ _ _ _ (T0.setTop (mkF m 10 #[.val (.ref r0), .val (.int (0 : Int32)), .val (.ref r0), .val (.int (3 : Int32)), .val (.int (3 : Int32)), .val (.int t2), .unset] []))
     refine own_st (fun t_ => XS.iload (own_here Y0) hx rfl (hb hby own_d1_10) rfl) ?_
     show own_Ends _ _ _ _ (T0.setTop (mkF m 12 #[.val (.ref r0), .val (.int (0 : Int32)), .val (.ref r0), .val (.int (3 : Int32)), .val (.int (3 : Int32)), .val (.int t2), .unset] [(.int (3 : Int32))]))
     refine own_st (fun t_ => XS.iloadN (own_here Y0) hx rfl (hb hby own_d1_12) rfl) ?_
     show own_Ends _ _ _ _ (T0.setTop (mkF m 13 #[.val (.ref r0), .val (.int (0 : Int32)), .val (.ref r0), .val (.int (3 : Int32)), .val (.int (3 : Int32)), .val (.int t2), .unset] [(.int (3 : Int32)), (.int (3 : Int32))]))
     refine own_st (fun t_ => XS.icmpYes (own_here Y0) hx rfl (pc0 := 13) (pc' := 36) rfl (hb hby own_d1_13) rfl (XT.ii_ge_t (by decide)) (by decide) (by decide)) ?_
     show own_Ends _ _ _ _ (T0.setTop (mkF m 36 #[.val (.ref r0), .val (.int (0 : Int32)), .val (.ref r0), .val (.int (3 : Int32)), .val (.int (3 : Int32)), .val (.int t2), .unset] []))
     refine own_st (fun t_ => XS.iloadN (own_here Y0) hx rfl (hb hby own_d1_36) rfl) ?_
     show own_Ends _ _ _ _ (T0.setTop (mkF m 37 #[.val (.ref r0), .val (.int (0 : Int32)), .val (.ref r0), .val (.int (3 : Int32)), .val (.int (3 : Int32)), .val (.int t2), .unset] [(.int (0 : Int32))]))
     refine own_newP Y0 hx hZ (hw _ (List.mem_of_getElem? (i := 6) rfl)) rfl (hb hby own_d1_37) rfl (by decide) (nz := 0) (cap := 0) (by decide) (by decide) (by decide) (by decide) (by decide) (ty := .long) rfl (fun T612 h614 b617 eb618 Y613 E615 A616 => ?_)
     have ne619 : r0 ≠ b617 := Nat.ne_of_lt (by rw [eb618]; exact A.lt)
     have g620 : n0 ≤ b617 := by rw [eb618]; exact Z0
     replace A616 : own_A Z h614 b617 .long [] := A616
     show own_Ends _ _ _ _ (T612.setTop (mkF m 39 #[.val (.ref r0), .val (.int (0 : Int32)), .val (.ref r0), .val (.int (3 : Int32)), .val (.int (3 : Int32)), .val (.int t2), .unset] [(.ref b617)]))
     refine own_st (fun t_ => XS.astoreN (own_here Y613) hx rfl (hb hby own_d1_39) rfl rfl (l' := #[.val (.ref r0), .val (.int (0 : Int32)), .val (.ref b617), .val (.int (3 : Int32)), .val (.int (3 : Int32)), .val (.int t2), .unset]) rfl) ?_
     show own_Ends _ _ _ _ (T612.setTop (mkF m 40 #[.val (.ref r0), .val (.int (0 : Int32)), .val (.ref b617), .val (.int (3 : Int32)), .val (.int (3 : Int32)), .val (.int t2), .unset] []))
     refine own_st (fun t_ => XS.lconst (own_here Y613) hx rfl (hb hby own_d1_40) ) ?_
     show own_Ends _ _ _ _ (T612.setTop (mkF m 41 #[.val (.ref r0), .val (.int (0 : Int32)), .val (.ref b617), .val (.int (3 : Int32)), .val (.int (3 : Int32)), .val (.int t2), .unset] [(.long (0 : Int64))]))
     refine own_st (fun t_ => XS.lstoreN (own_here Y613) hx rfl (hb hby own_d1_41) rfl (l' := #[.val (.ref r0), .val (.int (0 : Int32)), .val (.ref b617), .val (.long (0 : Int64)), .second, .val (.int t2), .unset]) rfl) ?_
     show own_Ends _ _ _ _ (T612.setTop (mkF m 42 #[.val (.ref r0), .val (.int (0 : Int32)), .val (.ref b617), .val (.long (0 : Int64)), .second, .val (.int t2), .unset] []))
     refine own_st (fun t_ => XS.iconst (own_here Y613) hx rfl (hb hby own_d1_42) ) ?_
     show own_Ends _ _ _ _ (T612.setTop (mkF m 43 #[.val (.ref r0), .val (.int (0 : Int32)), .val (.ref b617), .val (.long (0 : Int64)), .second, .val (.int t2), .unset] [(.int (0 : Int32))]))
     refine own_st (fun t_ => XS.istore (own_here Y613) hx rfl (hb hby own_d1_43) rfl (l' := #[.val (.ref r0), .val (.int (0 : Int32)), .val (.ref b617), .val (.long (0 : Int64)), .second, .val (.int (0 : Int32)), .unset]) rfl) ?_
     show own_Ends _ _ _ _ (T612.setTop (mkF m 45 #[.val (.ref r0), .val (.int (0 : Int32)), .val (.ref b617), .val (.long (0 : Int64)), .second, .val (.int (0 : Int32)), .unset] []))
     refine own_st (fun t_ => XS.iconst (own_here Y613) hx rfl (hb hby own_d1_45) ) ?_
     show own_Ends _ _ _ _ (T612.setTop (mkF m 46 #[.val (.ref r0), .val (.int (0 : Int32)), .val (.ref b617), .val (.long (0 : Int64)), .second, .val (.int (0 : Int32)), .unset] [(.int (0 : Int32))]))
     refine own_st (fun t_ => XS.istore (own_here Y613) hx rfl (hb hby own_d1_46) rfl (l' := #[.val (.ref r0), .val (.int (0 : Int32)), .val (.ref b617), .val (.long (0 : Int64)), .second, .val (.int (0 : Int32)), .val (.int (0 : Int32))]) rfl) ?_
     show own_Ends _ _ _ _ (T612.setTop (mkF m 48 #[.val (.ref r0), .val (.int (0 : Int32)), .val (.ref b617), .val (.long (0 : Int64)), .second, .val (.int (0 : Int32)), .val (.int (0 : Int32))] []))
     refine own_st (fun t_ => XS.iload (own_here Y613) hx rfl (hb hby own_d1_48) rfl) ?_
     show own_Ends _ _ _ _ (T612.setTop (mkF m 50 #[.val (.ref r0), .val (.int (0 : Int32)), .val (.ref b617), .val (.long (0 : Int64)), .second, .val (.int (0 : Int32)), .val (.int (0 : Int32))] [(.int (0 : Int32))]))
     refine own_st (fun t_ => XS.aloadN (own_here Y613) hx rfl (hb hby own_d1_50) rfl rfl) ?_
     show own_Ends _ _ _ _ (T612.setTop (mkF m 51 #[.val (.ref r0), .val (.int (0 : Int32)), .val (.ref b617), .val (.long (0 : Int64)), .second, .val (.int (0 : Int32)), .val (.int (0 : Int32))] [(.ref r0), (.int (0 : Int32))]))
     have f621 : own_A Z h614 r0 .int [(.int t0), (.int t1), (.int t2)] := A.ext E615
     refine own_len Y613 hx hZ f621 (z := (3 : Int32)) rfl rfl rfl (hb hby own_d1_51) ?_
     show own_Ends _ _ _ _ (T612.setTop (mkF m 52 #[.val (.ref r0), .val (.int (0 : Int32)), .val (.ref b617), .val (.long (0 : Int64)), .second, .val (.int (0 : Int32)), .val (.int (0 : Int32))] [(.int (3 : Int32)), (.int (0 : Int32))]))
     refine own_st (fun t_ => XS.icmpNo (own_here Y613) hx rfl (hb hby own_d1_52) rfl (XT.ii_ge_f (by decide))) ?_
     show own_Ends _ _ _ _ (T612.setTop (mkF m 55 #[.val (.ref r0), .val (.int (0 : Int32)), .val (.ref b617), .val (.long (0 : Int64)), .second, .val (.int (0 : Int32)), .val (.int (0 : Int32))] []))
     refine own_st (fun t_ => XS.aloadN (own_here Y613) hx rfl (hb hby own_d1_55) rfl rfl) ?_
     show own_Ends _ _ _ _ (T612.setTop (mkF m 56 #[.val (.ref r0), .val (.int (0 : Int32)), .val (.ref b617), .val (.long (0 : Int64)), .second, .val (.int (0 : Int32)), .val (.int (0 : Int32))] [(.ref r0)]))
     refine own_st (fun t_ => XS.iload (own_here Y613) hx rfl (hb hby own_d1_56) rfl) ?_
     show own_Ends _ _ _ _ (T612.setTop (mkF m 58 #[.val (.ref r0), .val (.int (0 : Int32)), .val (.ref b617), .val (.long (0 : Int64)), .second, .val (.int (0 : Int32)), .val (.int (0 : Int32))] [(.int (0 : Int32)), (.ref r0)]))
     refine own_ldI Y613 hx hZ f621 (i := 0) (by decide) (by decide) (Nat.le_of_ble_eq_true rfl) (v := (.int t0)) rfl rfl rfl (hb hby own_d1_58) ?_
     show own_Ends _ _ _ _ (T612.setTop (mkF m 59 #[.val (.ref r0), .val (.int (0 : Int32)), .val (.ref b617), .val (.long (0 : Int64)), .second, .val (.int (0 : Int32)), .val (.int (0 : Int32))] [(.int t0)]))
     refine own_st (fun t_ => XS.ifYes (own_here Y613) hx rfl (pc0 := 59) (pc' := 93) rfl (hb hby own_d1_59) rfl (XT.i0_le_t c24_138) (by decide) (by decide)) ?_
     show own_Ends _ _ _ _ (T612.setTop (mkF m 93 #[.val (.ref r0), .val (.int (0 : Int32)), .val (.ref b617), .val (.long (0 : Int64)), .second, .val (.int (0 : Int32)), .val (.int (0 : Int32))] []))
     refine own_st (fun t_ => XS.iinc (own_here Y613) hx rfl (hb hby own_d1_93) rfl (l' := #[.val (.ref r0), .val (.int (0 : Int32)), .val (.ref b617), .val (.long (0 : Int64)), .second, .val (.int (0 : Int32)), .val (.int (1 : Int32))]) rfl) ?_
     show own_Ends _ _ _ _ (T612.setTop (mkF m 96 #[.val (.ref r0), .val (.int (0 : Int32)), .val (.ref b617), .val (.long (0 : Int64)), .second, .val (.int (0 : Int32)), .val (.int (1 : Int32))] []))
     refine own_st (fun t_ => XS.goto (own_here Y613) hx rfl (pc0 := 96) (pc' := 48) rfl (hb hby own_d1_96) (by decide) (by decide)) ?_
     show own_Ends _ _ _ _ (T612.setTop (mkF m 48 #[.val (.ref r0), .val (.int (0 : Int32)), .val (.ref b617), .val (.long (0 : Int64)), .second, .val (.int (0 : Int32)), .val (.int (1 : Int32))] []))
     refine own_st (fun t_ => XS.iload (own_here Y613) hx rfl (hb hby own_d1_48) rfl) ?_
     show own_Ends _ _ _ _ (T612.setTop (mkF m 50 #[.val (.ref r0), .val (.int (0 : Int32)), .val (.ref b617), .val (.long (0 : Int64)), .second, .val (.int (0 : Int32)), .val (.int (1 : Int32))] [(.int (1 : Int32))]))
     refine own_st (fun t_ => XS.aloadN (own_here Y613) hx rfl (hb hby own_d1_50) rfl rfl) ?_
     show own_Ends _ _ _ _ (T612.setTop (mkF m 51 #[.val (.ref r0), .val (.int (0 : Int32)), .val (.ref b617), .val (.long (0 : Int64)), .second, .val (.int (0 : Int32)), .val (.int (1 : Int32))] [(.ref r0), (.int (1 : Int32))]))
     refine own_len Y613 hx hZ f621 (z := (3 : Int32)) rfl rfl rfl (hb hby own_d1_51) ?_
     show own_Ends _ _ _ _ (T612.setTop (mkF m 52 #[.val (.ref r0), .val (.int (0 : Int32)), .val (.ref b617), .val (.long (0 : Int64)), .second, .val (.int (0 : Int32)), .val (.int (1 : Int32))] [(.int (3 : Int32)), (.int (1 : Int32))]))
     refine own_st (fun t_ => XS.icmpNo (own_here Y613) hx rfl (hb hby own_d1_52) rfl (XT.ii_ge_f (by decide))) ?_
     show own_Ends _ _ _ _ (T612.setTop (mkF m 55 #[.val (.ref r0), .val (.int (0 : Int32)), .val (.ref b617), .val (.long (0 : Int64)), .second, .val (.int (0 : Int32)), .val (.int (1 : Int32))] []))
     refine own_st (fun t_ => XS.aloadN (own_here Y613) hx rfl (hb hby own_d1_55) rfl rfl) ?_
     show own_Ends _ _ _ _ (T612.setTop (mkF m 56 #[.val (.ref r0), .val (.int (0 : Int32)), .val (.ref b617), .val (.long (0 : Int64)), .second, .val (.int (0 : Int32)), .val (.int (1 : Int32))] [(.ref r0)]))
     refine own_st (fun t_ => XS.iload (own_here Y613) hx rfl (hb hby own_d1_56) rfl) ?_
     show own_Ends _ _ _ _ (T612.setTop (mkF m 58 #[.val (.ref r0), .val (.int (0 : Int32)), .val (.ref b617), .val (.long (0 : Int64)), .second, .val (.int (0 : Int32)), .val (.int (1 : Int32))] [(.int (1 : Int32)), (.ref r0)]))
     refine own_ldI Y613 hx hZ f621 (i := 1) (by decide) (by decide) (Nat.le_of_ble_eq_true rfl) (v := (.int t1)) rfl rfl rfl (hb hby own_d1_58) ?_
     show own_Ends _ _ _ _ (T612.setTop (mkF m 59 #[.val (.ref r0), .val (.int (0 : Int32)), .val (.ref b617), .val (.long (0 : Int64)), .second, .val (.int (0 : Int32)), .val (.int (1 : Int32))] [(.int t1)]))
     refine own_st (fun t_ => XS.ifYes (own_here Y613) hx rfl (pc0 := 59) (pc' := 93) rfl (hb hby own_d1_59) rfl (XT.i0_le_t c24_426) (by decide) (by decide)) ?_
     show own_Ends _ _ _ _ (T612.setTop (mkF m 93 #[.val (.ref r0), .val (.int (0 : Int32)), .val (.ref b617), .val (.long (0 : Int64)), .second, .val (.int (0 : Int32)), .val (.int (1 : Int32))] []))
     refine own_st (fun t_ => XS.iinc (own_here Y613) hx rfl (hb hby own_d1_93) rfl (l' := #[.val (.ref r0), .val (.int (0 : Int32)), .val (.ref b617), .val (.long (0 : Int64)), .second, .val (.int (0 : Int32)), .val (.int (2 : Int32))]) rfl) ?_
     show own_Ends _ _ _ _ (T612.setTop (mkF m 96 #[.val (.ref r0), .val (.int (0 : Int32)), .val (.ref b617), .val (.long (0 : Int64)), .second, .val (.int (0 : Int32)), .val (.int (2 : Int32))] []))
     refine own_st (fun t_ => XS.goto (own_here Y613) hx rfl (pc0 := 96) (pc' := 48) rfl (hb hby own_d1_96) (by decide) (by decide)) ?_
     show own_Ends _ _ _ _ (T612.setTop (mkF m 48 #[.val (.ref r0), .val (.int (0 : Int32)), .val (.ref b617), .val (.long (0 : Int64)), .second, .val (.int (0 : Int32)), .val (.int (2 : Int32))] []))
     refine own_st (fun t_ => XS.iload (own_here Y613) hx rfl (hb hby own_d1_48) rfl) ?_
     show own_Ends _ _ _ _ (T612.setTop (mkF m 50 #[.val (.ref r0), .val (.int (0 : Int32)), .val (.ref b617), .val (.long (0 : Int64)), .second, .val (.int (0 : Int32)), .val (.int (2 : Int32))] [(.int (2 : Int32))]))
     refine own_st (fun t_ => XS.aloadN (own_here Y613) hx rfl (hb hby own_d1_50) rfl rfl) ?_
     show own_Ends _ _ _ _ (T612.setTop (mkF m 51 #[.val (.ref r0), .val (.int (0 : Int32)), .val (.ref b617), .val (.long (0 : Int64)), .second, .val (.int (0 : Int32)), .val (.int (2 : Int32))] [(.ref r0), (.int (2 : Int32))]))
     refine own_len Y613 hx hZ f621 (z := (3 : Int32)) rfl rfl rfl (hb hby own_d1_51) ?_
     show own_Ends _ _ _ _ (T612.setTop (mkF m 52 #[.val (.ref r0), .val (.int (0 : Int32)), .val (.ref b617), .val (.long (0 : Int64)), .second, .val (.int (0 : Int32)), .val (.int (2 : Int32))] [(.int (3 : Int32)), (.int (2 : Int32))]))
     refine own_st (fun t_ => XS.icmpNo (own_here Y613) hx rfl (hb hby own_d1_52) rfl (XT.ii_ge_f (by decide))) ?_
     show own_Ends _ _ _ _ (T612.setTop (mkF m 55 #[.val (.ref r0), .val (.int (0 : Int32)), .val (.ref b617), .val (.long (0 : Int64)), .second, .val (.int (0 : Int32)), .val (.int (2 : Int32))] []))
     refine own_st (fun t_ => XS.aloadN (own_here Y613) hx rfl (hb hby own_d1_55) rfl rfl) ?_
     show own_Ends _ _ _ _ (T612.setTop (mkF m 56 #[.val (.ref r0), .val (.int (0 : Int32)), .val (.ref b617), .val (.long (0 : Int64)), .second, .val (.int (0 : Int32)), .val (.int (2 : Int32))] [(.ref r0)]))
     refine own_st (fun t_ => XS.iload (own_here Y613) hx rfl (hb hby own_d1_56) rfl) ?_
     show own_Ends _ _ _ _ (T612.setTop (mkF m 58 #[.val (.ref r0), .val (.int (0 : Int32)), .val (.ref b617), .val (.long (0 : Int64)), .second, .val (.int (0 : Int32)), .val (.int (2 : Int32))] [(.int (2 : Int32)), (.ref r0)]))
     refine own_ldI Y613 hx hZ f621 (i := 2) (by decide) (by decide) (Nat.le_of_ble_eq_true rfl) (v := (.int t2)) rfl rfl rfl (hb hby own_d1_58) ?_
     show own_Ends _ _ _ _ (T612.setTop (mkF m 59 #[.val (.ref r0), .val (.int (0 : Int32)), .val (.ref b617), .val (.long (0 : Int64)), .second, .val (.int (0 : Int32)), .val (.int (2 : Int32))] [(.int t2)]))
     refine own_st (fun t_ => XS.ifYes (own_here Y613) hx rfl (pc0 := 59) (pc' := 93) rfl (hb hby own_d1_59) rfl (XT.i0_le_t c24_555) (by decide) (by decide)) ?_
     show own_Ends _ _ _ _ (T612.setTop (mkF m 93 #[.val (.ref r0), .val (.int (0 : Int32)), .val (.ref b617), .val (.long (0 : Int64)), .second, .val (.int (0 : Int32)), .val (.int (2 : Int32))] []))
     refine own_st (fun t_ => XS.iinc (own_here Y613) hx rfl (hb hby own_d1_93) rfl (l' := #[.val (.ref r0), .val (.int (0 : Int32)), .val (.ref b617), .val (.long (0 : Int64)), .second, .val (.int (0 : Int32)), .val (.int (3 : Int32))]) rfl) ?_
     show own_Ends _ _ _ _ (T612.setTop (mkF m 96 #[.val (.ref r0), .val (.int (0 : Int32)), .val (.ref b617), .val (.long (0 : Int64)), .second, .val (.int (0 : Int32)), .val (.int (3 : Int32))] []))
     refine own_st (fun t_ => XS.goto (own_here Y613) hx rfl (pc0 := 96) (pc' := 48) rfl (hb hby own_d1_96) (by decide) (by decide)) ?_
     show own_Ends _ _ _ _ (T612.setTop (mkF m 48 #[.val (.ref r0), .val (.int (0 : Int32)), .val (.ref b617), .val (.long (0 : Int64)), .second, .val (.int (0 : Int32)), .val (.int (3 : Int32))] []))
     refine own_st (fun t_ => XS.iload (own_here Y613) hx rfl (hb hby own_d1_48) rfl) ?_
     show own_Ends _ _ _ _ (T612.setTop (mkF m 50 #[.val (.ref r0), .val (.int (0 : Int32)), .val (.ref b617), .val (.long (0 : Int64)), .second, .val (.int (0 : Int32)), .val (.int (3 : Int32))] [(.int (3 : Int32))]))
     refine own_st (fun t_ => XS.aloadN (own_here Y613) hx rfl (hb hby own_d1_50) rfl rfl) ?_
     show own_Ends _ _ _ _ (T612.setTop (mkF m 51 #[.val (.ref r0), .val (.int (0 : Int32)), .val (.ref b617), .val (.long (0 : Int64)), .second, .val (.int (0 : Int32)), .val (.int (3 : Int32))] [(.ref r0), (.int (3 : Int32))]))
     refine own_len Y613 hx hZ f621 (z := (3 : Int32)) rfl rfl rfl (hb hby own_d1_51) ?_
     show own_Ends _ _ _ _ (T612.setTop (mkF m 52 #[.val (.ref r0), .val (.int (0 : Int32)), .val (.ref b617), .val (.long (0 : Int64)), .second, .val (.int (0 : Int32)), .val (.int (3 : Int32))] [(.int (3 : Int32)), (.int (3 : Int32))]))
     refine own_st (fun t_ => XS.icmpYes (own_here Y613) hx rfl (pc0 := 52) (pc' := 99) rfl (hb hby own_d1_52) rfl (XT.ii_ge_t (by decide)) (by decide) (by decide)) ?_
     show own_Ends _ _ _ _ (T612.setTop (mkF m 99 #[.val (.ref r0), .val (.int (0 : Int32)), .val (.ref b617), .val (.long (0 : Int64)), .second, .val (.int (0 : Int32)), .val (.int (3 : Int32))] []))
     refine own_new Y613 hx hZ hown (hw _ (List.mem_of_getElem? (i := 14) rfl)) (hw _ (List.mem_of_getElem? (i := 15) rfl)) (hw _ (List.mem_of_getElem? (i := 4) rfl)) rfl (hb hby own_d1_99) (by decide) (by decide) (fun T622 h624 b628 eb629 Y623 E625 X626 D627 => ?_)
     have ne630 : r0 ≠ b628 := Nat.ne_of_lt (by rw [eb629]; exact f621.lt)
     have ne631 : b617 ≠ b628 := Nat.ne_of_lt (by rw [eb629]; exact A616.lt)
     have z633 : n0 ≤ h614.size := Nat.le_trans Z0 E615.1
     have g632 : n0 ≤ b628 := by rw [eb629]; exact z633
     have F634 : Fld Z h624 b628 "com/example/poset/poset/core/Marking" "size" "I" (.int (0 : Int32)) := D627 _ _ _ .int (Or.inr (hw _ (List.mem_of_getElem? (i := 23) rfl))) (by decide)
     have F635 : Fld Z h624 b628 "com/example/poset/poset/core/Marking" "entries" "[J" .null := D627 _ _ _ (.array .long) (Or.inr (hw _ (List.mem_of_getElem? (i := 25) rfl))) (by decide)
     have F636 : Fld Z h624 b628 "com/example/poset/poset/core/Marking" "wide" "Z" (.int (0 : Int32)) := D627 _ _ _ .boolean (Or.inr (hw _ (List.mem_of_getElem? (i := 27) rfl))) (by decide)
     have F637 : Fld Z h624 b628 "com/example/poset/poset/core/Marking" "mixed" "J" (.long (0 : Int64)) := D627 _ _ _ .long (Or.inr (hw _ (List.mem_of_getElem? (i := 29) rfl))) (by decide)
     show own_Ends _ _ _ _ (T622.setTop (mkF m 102 #[.val (.ref r0), .val (.int (0 : Int32)), .val (.ref b617), .val (.long (0 : Int64)), .second, .val (.int (0 : Int32)), .val (.int (3 : Int32))] [(.ref b628)]))
     refine own_st (fun t_ => XS.dup (own_here Y623) hx rfl (hb hby own_d1_102) rfl rfl) ?_
     show own_Ends _ _ _ _ (T622.setTop (mkF m 103 #[.val (.ref r0), .val (.int (0 : Int32)), .val (.ref b617), .val (.long (0 : Int64)), .second, .val (.int (0 : Int32)), .val (.int (3 : Int32))] [(.ref b628), (.ref b628)]))
     refine own_st (fun t_ => XS.aloadN (own_here Y623) hx rfl (hb hby own_d1_103) rfl rfl) ?_
     show own_Ends _ _ _ _ (T622.setTop (mkF m 104 #[.val (.ref r0), .val (.int (0 : Int32)), .val (.ref b617), .val (.long (0 : Int64)), .second, .val (.int (0 : Int32)), .val (.int (3 : Int32))] [(.ref r0), (.ref b628), (.ref b628)]))
     have f638 : own_A Z h624 r0 .int [(.int t0), (.int t1), (.int t2)] := f621.ext E625
     refine own_len Y623 hx hZ f638 (z := (3 : Int32)) rfl rfl rfl (hb hby own_d1_104) ?_
     show own_Ends _ _ _ _ (T622.setTop (mkF m 105 #[.val (.ref r0), .val (.int (0 : Int32)), .val (.ref b617), .val (.long (0 : Int64)), .second, .val (.int (0 : Int32)), .val (.int (3 : Int32))] [(.int (3 : Int32)), (.ref b628), (.ref b628)]))
     refine own_st (fun t_ => XS.aloadN (own_here Y623) hx rfl (hb hby own_d1_105) rfl rfl) ?_
     show own_Ends _ _ _ _ (T622.setTop (mkF m 106 #[.val (.ref r0), .val (.int (0 : Int32)), .val (.ref b617), .val (.long (0 : Int64)), .second, .val (.int (0 : Int32)), .val (.int (3 : Int32))] [(.ref b617), (.int (3 : Int32)), (.ref b628), (.ref b628)]))
     refine own_st (fun t_ => XS.iconst (own_here Y623) hx rfl (hb hby own_d1_106) ) ?_
     show own_Ends _ _ _ _ (T622.setTop (mkF m 107 #[.val (.ref r0), .val (.int (0 : Int32)), .val (.ref b617), .val (.long (0 : Int64)), .second, .val (.int (0 : Int32)), .val (.int (3 : Int32))] [(.int (0 : Int32)), (.ref b617), (.int (3 : Int32)), (.ref b628), (.ref b628)]))
     refine own_st (fun t_ => XS.lloadN (own_here Y623) hx rfl (hb hby own_d1_107) rfl) ?_
     show own_Ends _ _ _ _ (T622.setTop (mkF m 108 #[.val (.ref r0), .val (.int (0 : Int32)), .val (.ref b617), .val (.long (0 : Int64)), .second, .val (.int (0 : Int32)), .val (.int (3 : Int32))] [(.long (0 : Int64)), (.int (0 : Int32)), (.ref b617), (.int (3 : Int32)), (.ref b628), (.ref b628)]))
     refine own_callN Y623 hx hZ (y := (⟨"com/example/poset/poset/core/Marking", "<init>", "(I[JZJ)V"⟩ : MethodName)) rfl hown (hw _ (List.mem_of_getElem? (i := 16) rfl)) (hw _ (List.mem_of_getElem? (i := 17) rfl)) (hw _ (List.mem_of_getElem? (i := 4) rfl)) (hw _ (List.mem_of_getElem? (i := 18) rfl)) (by decide) (a := b628) (argsL := [(.int (3 : Int32)), (.ref b617), (.int (0 : Int32)), (.long (0 : Int64))]) (rest := [(.ref b628)]) (own_rm4 l Z a0 hw [] b628 (3 : Int32) b617 (0 : Int64)  h624 n0  X626 F634 F635 F636 F637 g632) (W := 1) (by decide) (by decide) (by decide) (by decide) rfl (by rw [hml]; rfl) (lenOf own_pd7 rfl) rfl (by show 2 * 0 + _ ≤ _; exact Nat.le_of_eq rfl) (hb hby own_d1_108) (fun T639 h641 v642 Y640 q643 => ?_)
     obtain ⟨rfl, K644, F645, F646, F647⟩ := q643
     show own_Ends _ _ _ _ (T639.setTop (mkF m 111 #[.val (.ref r0), .val (.int (0 : Int32)), .val (.ref b617), .val (.long (0 : Int64)), .second, .val (.int (0 : Int32)), .val (.int (3 : Int32))] [(.ref b628)]))
     have z648 : n0 ≤ h624.size := Nat.le_trans z633 E625.1
     have z649 : n0 ≤ h641.size := Nat.le_trans z648 K644.1
     have f650 : own_A Z h624 b617 .long [] := A616.ext E625
     have f651 : own_A Z h641 b617 .long [] := f650.keep K644 (ninS ne631 nin0)
     have hes : own_es t0 t1 t2 = [] := by simp [own_es, c24_138, c24_426, c24_555]
     have f652 : Exa Z h641 b628 "com/example/poset/poset/core/Marking" := X626.keep K644
     refine own_retA Y640 hx hlk hret rfl rfl rfl (hb hby own_d1_111) (by decide) (by decide) ?_
     exact ⟨_, _, rfl, z649, f652, F645, F646, F647, by rw [hes]; exact f651⟩
theorem own_es_len {a b c : Int32} {es : List Int64} (h : own_es a b c = es) : ∃ ml : Int32, ml.toInt = (es.length : Int) ∧ es.length ≤ 3 := by
  subst h; unfold own_es
  by_cases h1 : 0 < a <;> by_cases h2 : 0 < b <;> by_cases h3 : 0 < c <;> simp only [h1, h2, h3, if_true, if_false, List.nil_append, List.append_nil, List.cons_append, List.length_cons, List.length_nil] <;> first | exact ⟨0, rfl, by decide⟩ | exact ⟨1, rfl, by decide⟩ | exact ⟨2, rfl, by decide⟩ | exact ⟨3, rfl, by decide⟩
theorem own_es_ord {a b c : Int32} {es : List Int64} (p0 : 0 ≤ a.toInt) (p1 : 0 ≤ b.toInt) (p2 : 0 ≤ c.toInt) (h : own_es a b c = es) : own_ord es := by
  subst h; unfold own_es own_ord
  have e0 : (0 : Int32).toInt = 0 := rfl
  have e1 : (1 : Int32).toInt = 1 := rfl
  have e2 : (2 : Int32).toInt = 2 := rfl
  by_cases h1 : 0 < a <;> by_cases h2 : 0 < b <;> by_cases h3 : 0 < c <;> simp only [h1, h2, h3, if_true, if_false, List.nil_append, List.append_nil, List.cons_append, List.length_cons, List.length_nil] <;> intro i j hij hj <;>
  (have hc : (i = 0 ∧ j = 1) ∨ (i = 0 ∧ j = 2) ∨ (i = 1 ∧ j = 2) ∨ False := by omega
   rcases hc with ⟨rfl, rfl⟩ | ⟨rfl, rfl⟩ | ⟨rfl, rfl⟩ | hc <;> first | (exfalso; omega) | (exfalso; exact hc) | simp [own_pl0 p0, own_pl1 p1, own_pl2 p2, List.getD, e0, e1, e2])
theorem own_tok0 {a b c : Int32} {es : List Int64} {r : Int64} (p0 : 0 ≤ a.toInt) (p1 : 0 ≤ b.toInt) (p2 : 0 ≤ c.toInt) (h : own_es a b c = es) (H : (∃ k : Nat, k < es.length ∧ own_pl (es.getD k 0) = 0 ∧ r = own_cn (es.getD k 0)) ∨ (r = 0 ∧ ∀ k : Nat, k < es.length → ¬ own_pl (es.getD k 0) = 0)) : r = a.toInt64 := by
  subst h
  have z : ¬ 0 < a → a.toInt64 = 0 := fun q => by
    apply Int64.toInt_inj.mp; rw [c_i2l]; rw [own_lt] at q; have e0 : (0 : Int32).toInt = 0 := rfl; show a.toInt = 0; omega
  have d1 : ¬ (0 : Int32) = 1 := by decide
  have d2 : ¬ (0 : Int32) = 2 := by decide
  have d3 : ¬ (1 : Int32) = 0 := by decide
  have d4 : ¬ (1 : Int32) = 2 := by decide
  have d5 : ¬ (2 : Int32) = 0 := by decide
  have d6 : ¬ (2 : Int32) = 1 := by decide
  rcases H with ⟨k, hk, hp, rfl⟩ | ⟨rfl, H⟩
  · unfold own_es at *
    by_cases h1 : 0 < a <;> by_cases h2 : 0 < b <;> by_cases h3 : 0 < c <;> simp only [h1, h2, h3, if_true, if_false, List.nil_append, List.append_nil, List.cons_append, List.length_cons, List.length_nil] at hk hp ⊢ <;>
    (have hc : k = 0 ∨ k = 1 ∨ k = 2 := by omega
     rcases hc with rfl | rfl | rfl <;> first | (exfalso; omega) | (simp [List.getD, own_pl0 p0, own_pl1 p1, own_pl2 p2, d1, d2, d3, d4, d5, d6] at hp; done) | (simp only [List.getD, List.getElem?_cons_zero, List.getElem?_cons_succ, Option.getD_some]; exact own_cnE own_s0 p0))
  · by_cases hz : 0 < a
    · exfalso
      unfold own_es at H
      by_cases h1 : 0 < a <;> by_cases h2 : 0 < b <;> by_cases h3 : 0 < c <;> simp only [h1, h2, h3, if_true, if_false, List.nil_append, List.append_nil, List.cons_append, List.length_cons, List.length_nil] at H <;> first | (exact absurd hz (by assumption)) | (refine H 0 (by decide) ?_; simp [List.getD, own_pl0 p0, own_pl1 p1, own_pl2 p2]; done) | (refine H 1 (by decide) ?_; simp [List.getD, own_pl0 p0, own_pl1 p1, own_pl2 p2]; done) | (refine H 2 (by decide) ?_; simp [List.getD, own_pl0 p0, own_pl1 p1, own_pl2 p2]; done)
    · exact (z hz).symm
theorem own_tok1 {a b c : Int32} {es : List Int64} {r : Int64} (p0 : 0 ≤ a.toInt) (p1 : 0 ≤ b.toInt) (p2 : 0 ≤ c.toInt) (h : own_es a b c = es) (H : (∃ k : Nat, k < es.length ∧ own_pl (es.getD k 0) = 1 ∧ r = own_cn (es.getD k 0)) ∨ (r = 0 ∧ ∀ k : Nat, k < es.length → ¬ own_pl (es.getD k 0) = 1)) : r = b.toInt64 := by
  subst h
  have z : ¬ 0 < b → b.toInt64 = 0 := fun q => by
    apply Int64.toInt_inj.mp; rw [c_i2l]; rw [own_lt] at q; have e0 : (0 : Int32).toInt = 0 := rfl; show b.toInt = 0; omega
  have d1 : ¬ (0 : Int32) = 1 := by decide
  have d2 : ¬ (0 : Int32) = 2 := by decide
  have d3 : ¬ (1 : Int32) = 0 := by decide
  have d4 : ¬ (1 : Int32) = 2 := by decide
  have d5 : ¬ (2 : Int32) = 0 := by decide
  have d6 : ¬ (2 : Int32) = 1 := by decide
  rcases H with ⟨k, hk, hp, rfl⟩ | ⟨rfl, H⟩
  · unfold own_es at *
    by_cases h1 : 0 < a <;> by_cases h2 : 0 < b <;> by_cases h3 : 0 < c <;> simp only [h1, h2, h3, if_true, if_false, List.nil_append, List.append_nil, List.cons_append, List.length_cons, List.length_nil] at hk hp ⊢ <;>
    (have hc : k = 0 ∨ k = 1 ∨ k = 2 := by omega
     rcases hc with rfl | rfl | rfl <;> first | (exfalso; omega) | (simp [List.getD, own_pl0 p0, own_pl1 p1, own_pl2 p2, d1, d2, d3, d4, d5, d6] at hp; done) | (simp only [List.getD, List.getElem?_cons_zero, List.getElem?_cons_succ, Option.getD_some]; exact own_cnE own_s1 p1))
  · by_cases hz : 0 < b
    · exfalso
      unfold own_es at H
      by_cases h1 : 0 < a <;> by_cases h2 : 0 < b <;> by_cases h3 : 0 < c <;> simp only [h1, h2, h3, if_true, if_false, List.nil_append, List.append_nil, List.cons_append, List.length_cons, List.length_nil] at H <;> first | (exact absurd hz (by assumption)) | (refine H 0 (by decide) ?_; simp [List.getD, own_pl0 p0, own_pl1 p1, own_pl2 p2]; done) | (refine H 1 (by decide) ?_; simp [List.getD, own_pl0 p0, own_pl1 p1, own_pl2 p2]; done) | (refine H 2 (by decide) ?_; simp [List.getD, own_pl0 p0, own_pl1 p1, own_pl2 p2]; done)
    · exact (z hz).symm
theorem own_tok2 {a b c : Int32} {es : List Int64} {r : Int64} (p0 : 0 ≤ a.toInt) (p1 : 0 ≤ b.toInt) (p2 : 0 ≤ c.toInt) (h : own_es a b c = es) (H : (∃ k : Nat, k < es.length ∧ own_pl (es.getD k 0) = 2 ∧ r = own_cn (es.getD k 0)) ∨ (r = 0 ∧ ∀ k : Nat, k < es.length → ¬ own_pl (es.getD k 0) = 2)) : r = c.toInt64 := by
  subst h
  have z : ¬ 0 < c → c.toInt64 = 0 := fun q => by
    apply Int64.toInt_inj.mp; rw [c_i2l]; rw [own_lt] at q; have e0 : (0 : Int32).toInt = 0 := rfl; show c.toInt = 0; omega
  have d1 : ¬ (0 : Int32) = 1 := by decide
  have d2 : ¬ (0 : Int32) = 2 := by decide
  have d3 : ¬ (1 : Int32) = 0 := by decide
  have d4 : ¬ (1 : Int32) = 2 := by decide
  have d5 : ¬ (2 : Int32) = 0 := by decide
  have d6 : ¬ (2 : Int32) = 1 := by decide
  rcases H with ⟨k, hk, hp, rfl⟩ | ⟨rfl, H⟩
  · unfold own_es at *
    by_cases h1 : 0 < a <;> by_cases h2 : 0 < b <;> by_cases h3 : 0 < c <;> simp only [h1, h2, h3, if_true, if_false, List.nil_append, List.append_nil, List.cons_append, List.length_cons, List.length_nil] at hk hp ⊢ <;>
    (have hc : k = 0 ∨ k = 1 ∨ k = 2 := by omega
     rcases hc with rfl | rfl | rfl <;> first | (exfalso; omega) | (simp [List.getD, own_pl0 p0, own_pl1 p1, own_pl2 p2, d1, d2, d3, d4, d5, d6] at hp; done) | (simp only [List.getD, List.getElem?_cons_zero, List.getElem?_cons_succ, Option.getD_some]; exact own_cnE own_s2 p2))
  · by_cases hz : 0 < c
    · exfalso
      unfold own_es at H
      by_cases h1 : 0 < a <;> by_cases h2 : 0 < b <;> by_cases h3 : 0 < c <;> simp only [h1, h2, h3, if_true, if_false, List.nil_append, List.append_nil, List.cons_append, List.length_cons, List.length_nil] at H <;> first | (exact absurd hz (by assumption)) | (refine H 0 (by decide) ?_; simp [List.getD, own_pl0 p0, own_pl1 p1, own_pl2 p2]; done) | (refine H 1 (by decide) ?_; simp [List.getD, own_pl0 p0, own_pl1 p1, own_pl2 p2]; done) | (refine H 2 (by decide) ?_; simp [List.getD, own_pl0 p0, own_pl1 p1, own_pl2 p2]; done)
    · exact (z hz).symm
theorem own_pn3 : plainName "com/example/poset/poset/core/MarkingOfPinLaw" = true := by first | (simp [plainName, overriddenIn]; done) | decide +kernel
theorem own_pd8 : parseMethodDescriptor "([I)Lcom/example/poset/poset/core/Marking;" = some ⟨[(.array .int)], some (.object "com/example/poset/poset/core/Marking")⟩ := by decide +kernel
theorem own_ef_own_rm0 (m : MethodId) (x0 : Int32) (x1 : Int32) (x2 : Int32) (x3 : Int32) : entryFrame m #[(.int x0), (.int x1), (.int x2), (.int x3)] maxLocals = mkF m 0 #[.val (.int x0), .val (.int x1), .val (.int x2), .val (.int x3), .unset, .unset, .unset, .unset, .unset, .unset, .unset, .unset] [] := by first | (simp [entryFrame, mkF, argsToLocals, Value.category, maxLocals]; done) | rfl
def own_Q_own_rm0 (Z : State) (x0 : Int32) (x1 : Int32) (x2 : Int32) (x3 : Int32) (h0 : Heap) (n0 : Nat) (v : Option Value) (h : Heap) : Prop := v = some (.int 1)
set_option maxRecDepth 65536 in
set_option maxHeartbeats 40000000 in
theorem own_rm0 (l : Launch) (Z : State) (a0 : Array Value) (hw : ∀ d ∈ tables_1, d.before a0 Z = true) (ws : List Jvm.Cond) (x0 : Int32) (x1 : Int32) (x2 : Int32) (x3 : Int32)  (h0 : Heap) (n0 : Nat) (Z0 : n0 ≤ h0.size)  :
    own_Con l Z x code maxLocals ret ws room_1 #[(.int x0), (.int x1), (.int x2), (.int x3)] h0 n0 (own_Q_own_rm0 Z x0 x1 x2 x3 h0 n0) := by
  refine own_body (plainFor_of_name own_pn3) ?_
  intro p e s m below meth c T0 hx hZ hby hml hown hnm hret hlk Y0
  replace hown : s.vm.findClass "com/example/poset/poset/core/MarkingOfPinLaw" = some m.cls := hown
  replace hml : c.maxLocals = 12 := hml
  replace hret : meth.sig.returnType = some .boolean := hret
  rw [own_ef_own_rm0 m x0 x1 x2 x3]
  show own_Ends _ _ _ _ (T0.setTop (mkF m 0 #[.val (.int x0), .val (.int x1), .val (.int x2), .val (.int x3), .unset, .unset, .unset, .unset, .unset, .unset, .unset, .unset] []))
  refine own_st (fun t_ => XS.iloadN (own_here Y0) hx rfl (hb hby at_0) rfl) ?_
  show own_Ends _ _ _ _ (T0.setTop (mkF m 1 #[.val (.int x0), .val (.int x1), .val (.int x2), .val (.int x3), .unset, .unset, .unset, .unset, .unset, .unset, .unset, .unset] [(.int x3)]))
  refine own_st (fun t_ => XS.iconst (own_here Y0) hx rfl (hb hby at_1) ) ?_
  show own_Ends _ _ _ _ (T0.setTop (mkF m 2 #[.val (.int x0), .val (.int x1), .val (.int x2), .val (.int x3), .unset, .unset, .unset, .unset, .unset, .unset, .unset, .unset] [(.int (1 : Int32)), (.int x3)]))
  refine own_st (fun t_ => XS.iand (own_here Y0) hx rfl (hb hby at_2) rfl) ?_
  show own_Ends _ _ _ _ (T0.setTop (mkF m 3 #[.val (.int x0), .val (.int x1), .val (.int x2), .val (.int x3), .unset, .unset, .unset, .unset, .unset, .unset, .unset, .unset] [(.int (x3 &&& (1 : Int32)))]))
  have hJ653 : ∀ (T654 : State)  (t0 : Int32) (Y655 : own_S p l e room_1 s m #[(.int x0), (.int x1), (.int x2), (.int x3)] below meth c n0 T654 h0 0 0)  (p0 : 0 ≤ t0.toInt), own_Ends p.tables e below (own_P s n0 (own_Q_own_rm0 Z x0 x1 x2 x3 h0 n0) room_1.cells room_1.slots) (T654.setTop (mkF m 14 #[.val (.int x0), .val (.int x1), .val (.int x2), .val (.int x3), .unset, .unset, .unset, .unset, .unset, .unset, .unset, .unset] [(.int t0)])) := by
   intro T654  t0 Y655  p0
   refine own_st (fun t_ => XS.istore (own_here Y655) hx rfl (hb hby at_14) rfl (l' := #[.val (.int x0), .val (.int x1), .val (.int x2), .val (.int x3), .val (.int t0), .unset, .unset, .unset, .unset, .unset, .unset, .unset]) rfl) ?_
   show own_Ends _ _ _ _ (T654.setTop (mkF m 16 #[.val (.int x0), .val (.int x1), .val (.int x2), .val (.int x3), .val (.int t0), .unset, .unset, .unset, .unset, .unset, .unset, .unset] []))
   refine own_st (fun t_ => XS.iloadN (own_here Y655) hx rfl (hb hby at_16) rfl) ?_
   show own_Ends _ _ _ _ (T654.setTop (mkF m 17 #[.val (.int x0), .val (.int x1), .val (.int x2), .val (.int x3), .val (.int t0), .unset, .unset, .unset, .unset, .unset, .unset, .unset] [(.int x3)]))
   refine own_st (fun t_ => XS.iconst (own_here Y655) hx rfl (hb hby at_17) ) ?_
   show own_Ends _ _ _ _ (T654.setTop (mkF m 18 #[.val (.int x0), .val (.int x1), .val (.int x2), .val (.int x3), .val (.int t0), .unset, .unset, .unset, .unset, .unset, .unset, .unset] [(.int (2 : Int32)), (.int x3)]))
   refine own_st (fun t_ => XS.iand (own_here Y655) hx rfl (hb hby at_18) rfl) ?_
   show own_Ends _ _ _ _ (T654.setTop (mkF m 19 #[.val (.int x0), .val (.int x1), .val (.int x2), .val (.int x3), .val (.int t0), .unset, .unset, .unset, .unset, .unset, .unset, .unset] [(.int (x3 &&& (2 : Int32)))]))
   have hJ656 : ∀ (T657 : State)  (t1 : Int32) (Y658 : own_S p l e room_1 s m #[(.int x0), (.int x1), (.int x2), (.int x3)] below meth c n0 T657 h0 0 0)  (p1 : 0 ≤ t1.toInt), own_Ends p.tables e below (own_P s n0 (own_Q_own_rm0 Z x0 x1 x2 x3 h0 n0) room_1.cells room_1.slots) (T657.setTop (mkF m 30 #[.val (.int x0), .val (.int x1), .val (.int x2), .val (.int x3), .val (.int t0), .unset, .unset, .unset, .unset, .unset, .unset, .unset] [(.int t1)])) := by
    intro T657  t1 Y658  p1
    refine own_st (fun t_ => XS.istore (own_here Y658) hx rfl (hb hby at_30) rfl (l' := #[.val (.int x0), .val (.int x1), .val (.int x2), .val (.int x3), .val (.int t0), .val (.int t1), .unset, .unset, .unset, .unset, .unset, .unset]) rfl) ?_
    show own_Ends _ _ _ _ (T657.setTop (mkF m 32 #[.val (.int x0), .val (.int x1), .val (.int x2), .val (.int x3), .val (.int t0), .val (.int t1), .unset, .unset, .unset, .unset, .unset, .unset] []))
    refine own_st (fun t_ => XS.iloadN (own_here Y658) hx rfl (hb hby at_32) rfl) ?_
    show own_Ends _ _ _ _ (T657.setTop (mkF m 33 #[.val (.int x0), .val (.int x1), .val (.int x2), .val (.int x3), .val (.int t0), .val (.int t1), .unset, .unset, .unset, .unset, .unset, .unset] [(.int x3)]))
    refine own_st (fun t_ => XS.iconst (own_here Y658) hx rfl (hb hby at_33) ) ?_
    show own_Ends _ _ _ _ (T657.setTop (mkF m 34 #[.val (.int x0), .val (.int x1), .val (.int x2), .val (.int x3), .val (.int t0), .val (.int t1), .unset, .unset, .unset, .unset, .unset, .unset] [(.int (4 : Int32)), (.int x3)]))
    refine own_st (fun t_ => XS.iand (own_here Y658) hx rfl (hb hby at_34) rfl) ?_
    show own_Ends _ _ _ _ (T657.setTop (mkF m 35 #[.val (.int x0), .val (.int x1), .val (.int x2), .val (.int x3), .val (.int t0), .val (.int t1), .unset, .unset, .unset, .unset, .unset, .unset] [(.int (x3 &&& (4 : Int32)))]))
    have hJ659 : ∀ (T660 : State)  (t2 : Int32) (Y661 : own_S p l e room_1 s m #[(.int x0), (.int x1), (.int x2), (.int x3)] below meth c n0 T660 h0 0 0)  (p2 : 0 ≤ t2.toInt), own_Ends p.tables e below (own_P s n0 (own_Q_own_rm0 Z x0 x1 x2 x3 h0 n0) room_1.cells room_1.slots) (T660.setTop (mkF m 46 #[.val (.int x0), .val (.int x1), .val (.int x2), .val (.int x3), .val (.int t0), .val (.int t1), .unset, .unset, .unset, .unset, .unset, .unset] [(.int t2)])) := by
     intro T660  t2 Y661  p2
     refine own_st (fun t_ => XS.istore (own_here Y661) hx rfl (hb hby at_46) rfl (l' := #[.val (.int x0), .val (.int x1), .val (.int x2), .val (.int x3), .val (.int t0), .val (.int t1), .val (.int t2), .unset, .unset, .unset, .unset, .unset]) rfl) ?_
     show own_Ends _ _ _ _ (T660.setTop (mkF m 48 #[.val (.int x0), .val (.int x1), .val (.int x2), .val (.int x3), .val (.int t0), .val (.int t1), .val (.int t2), .unset, .unset, .unset, .unset, .unset] []))
     refine own_st (fun t_ => XS.iconst (own_here Y661) hx rfl (hb hby at_48) ) ?_
     show own_Ends _ _ _ _ (T660.setTop (mkF m 49 #[.val (.int x0), .val (.int x1), .val (.int x2), .val (.int x3), .val (.int t0), .val (.int t1), .val (.int t2), .unset, .unset, .unset, .unset, .unset] [(.int (3 : Int32))]))
     refine own_newP Y661 hx hZ (hw _ (List.mem_of_getElem? (i := 1) rfl)) rfl (hb hby at_49) rfl (by decide) (nz := 3) (cap := 3) (by decide) (by decide) (by decide) (by decide) (by decide) (ty := .int) rfl (fun T662 h664 b667 eb668 Y663 E665 A666 => ?_)
     have g669 : n0 ≤ b667 := by rw [eb668]; exact Z0
     replace A666 : own_A Z h664 b667 .int [(.int (0 : Int32)), (.int (0 : Int32)), (.int (0 : Int32))] := A666
     show own_Ends _ _ _ _ (T662.setTop (mkF m 51 #[.val (.int x0), .val (.int x1), .val (.int x2), .val (.int x3), .val (.int t0), .val (.int t1), .val (.int t2), .unset, .unset, .unset, .unset, .unset] [(.ref b667)]))
     refine own_st (fun t_ => XS.dup (own_here Y663) hx rfl (hb hby at_51) rfl rfl) ?_
     show own_Ends _ _ _ _ (T662.setTop (mkF m 52 #[.val (.int x0), .val (.int x1), .val (.int x2), .val (.int x3), .val (.int t0), .val (.int t1), .val (.int t2), .unset, .unset, .unset, .unset, .unset] [(.ref b667), (.ref b667)]))
     refine own_st (fun t_ => XS.iconst (own_here Y663) hx rfl (hb hby at_52) ) ?_
     show own_Ends _ _ _ _ (T662.setTop (mkF m 53 #[.val (.int x0), .val (.int x1), .val (.int x2), .val (.int x3), .val (.int t0), .val (.int t1), .val (.int t2), .unset, .unset, .unset, .unset, .unset] [(.int (0 : Int32)), (.ref b667), (.ref b667)]))
     refine own_st (fun t_ => XS.iload (own_here Y663) hx rfl (hb hby at_53) rfl) ?_
     show own_Ends _ _ _ _ (T662.setTop (mkF m 55 #[.val (.int x0), .val (.int x1), .val (.int x2), .val (.int x3), .val (.int t0), .val (.int t1), .val (.int t2), .unset, .unset, .unset, .unset, .unset] [(.int t0), (.int (0 : Int32)), (.ref b667), (.ref b667)]))
     refine own_stI Y663 hx hZ A666 g669 (i := 0) (by decide) (by decide) (Nat.le_of_ble_eq_true rfl) rfl rfl (hb hby at_55) (fun T670 h672 Y671 W673 A674 => ?_)
     replace A674 : own_A Z h672 b667 .int [(.int t0), (.int (0 : Int32)), (.int (0 : Int32))] := A674
     show own_Ends _ _ _ _ (T670.setTop (mkF m 56 #[.val (.int x0), .val (.int x1), .val (.int x2), .val (.int x3), .val (.int t0), .val (.int t1), .val (.int t2), .unset, .unset, .unset, .unset, .unset] [(.ref b667)]))
     refine own_st (fun t_ => XS.dup (own_here Y671) hx rfl (hb hby at_56) rfl rfl) ?_
     show own_Ends _ _ _ _ (T670.setTop (mkF m 57 #[.val (.int x0), .val (.int x1), .val (.int x2), .val (.int x3), .val (.int t0), .val (.int t1), .val (.int t2), .unset, .unset, .unset, .unset, .unset] [(.ref b667), (.ref b667)]))
     refine own_st (fun t_ => XS.iconst (own_here Y671) hx rfl (hb hby at_57) ) ?_
     show own_Ends _ _ _ _ (T670.setTop (mkF m 58 #[.val (.int x0), .val (.int x1), .val (.int x2), .val (.int x3), .val (.int t0), .val (.int t1), .val (.int t2), .unset, .unset, .unset, .unset, .unset] [(.int (1 : Int32)), (.ref b667), (.ref b667)]))
     refine own_st (fun t_ => XS.iload (own_here Y671) hx rfl (hb hby at_58) rfl) ?_
     show own_Ends _ _ _ _ (T670.setTop (mkF m 60 #[.val (.int x0), .val (.int x1), .val (.int x2), .val (.int x3), .val (.int t0), .val (.int t1), .val (.int t2), .unset, .unset, .unset, .unset, .unset] [(.int t1), (.int (1 : Int32)), (.ref b667), (.ref b667)]))
     refine own_stI Y671 hx hZ A674 g669 (i := 1) (by decide) (by decide) (Nat.le_of_ble_eq_true rfl) rfl rfl (hb hby at_60) (fun T675 h677 Y676 W678 A679 => ?_)
     replace A679 : own_A Z h677 b667 .int [(.int t0), (.int t1), (.int (0 : Int32))] := A679
     show own_Ends _ _ _ _ (T675.setTop (mkF m 61 #[.val (.int x0), .val (.int x1), .val (.int x2), .val (.int x3), .val (.int t0), .val (.int t1), .val (.int t2), .unset, .unset, .unset, .unset, .unset] [(.ref b667)]))
     refine own_st (fun t_ => XS.dup (own_here Y676) hx rfl (hb hby at_61) rfl rfl) ?_
     show own_Ends _ _ _ _ (T675.setTop (mkF m 62 #[.val (.int x0), .val (.int x1), .val (.int x2), .val (.int x3), .val (.int t0), .val (.int t1), .val (.int t2), .unset, .unset, .unset, .unset, .unset] [(.ref b667), (.ref b667)]))
     refine own_st (fun t_ => XS.iconst (own_here Y676) hx rfl (hb hby at_62) ) ?_
     show own_Ends _ _ _ _ (T675.setTop (mkF m 63 #[.val (.int x0), .val (.int x1), .val (.int x2), .val (.int x3), .val (.int t0), .val (.int t1), .val (.int t2), .unset, .unset, .unset, .unset, .unset] [(.int (2 : Int32)), (.ref b667), (.ref b667)]))
     refine own_st (fun t_ => XS.iload (own_here Y676) hx rfl (hb hby at_63) rfl) ?_
     show own_Ends _ _ _ _ (T675.setTop (mkF m 65 #[.val (.int x0), .val (.int x1), .val (.int x2), .val (.int x3), .val (.int t0), .val (.int t1), .val (.int t2), .unset, .unset, .unset, .unset, .unset] [(.int t2), (.int (2 : Int32)), (.ref b667), (.ref b667)]))
     refine own_stI Y676 hx hZ A679 g669 (i := 2) (by decide) (by decide) (Nat.le_of_ble_eq_true rfl) rfl rfl (hb hby at_65) (fun T680 h682 Y681 W683 A684 => ?_)
     replace A684 : own_A Z h682 b667 .int [(.int t0), (.int t1), (.int t2)] := A684
     show own_Ends _ _ _ _ (T680.setTop (mkF m 66 #[.val (.int x0), .val (.int x1), .val (.int x2), .val (.int x3), .val (.int t0), .val (.int t1), .val (.int t2), .unset, .unset, .unset, .unset, .unset] [(.ref b667)]))
     refine own_st (fun t_ => XS.astore (own_here Y681) hx rfl (hb hby at_66) rfl rfl (l' := #[.val (.int x0), .val (.int x1), .val (.int x2), .val (.int x3), .val (.int t0), .val (.int t1), .val (.int t2), .val (.ref b667), .unset, .unset, .unset, .unset]) rfl) ?_
     show own_Ends _ _ _ _ (T680.setTop (mkF m 68 #[.val (.int x0), .val (.int x1), .val (.int x2), .val (.int x3), .val (.int t0), .val (.int t1), .val (.int t2), .val (.ref b667), .unset, .unset, .unset, .unset] []))
     refine own_st (fun t_ => XS.aload (own_here Y681) hx rfl (hb hby at_68) rfl rfl) ?_
     show own_Ends _ _ _ _ (T680.setTop (mkF m 70 #[.val (.int x0), .val (.int x1), .val (.int x2), .val (.int x3), .val (.int t0), .val (.int t1), .val (.int t2), .val (.ref b667), .unset, .unset, .unset, .unset] [(.ref b667)]))
     have z685 : n0 ≤ h664.size := Nat.le_trans Z0 E665.1
     have z686 : n0 ≤ h672.size := Nat.le_trans z685 (Nat.le_of_eq W673.size.symm)
     have z687 : n0 ≤ h677.size := Nat.le_trans z686 (Nat.le_of_eq W678.size.symm)
     have z688 : n0 ≤ h682.size := Nat.le_trans z687 (Nat.le_of_eq W683.size.symm)
     refine own_callS Y681 hx hZ (y := (⟨"com/example/poset/poset/core/Marking", "of", "([I)Lcom/example/poset/poset/core/Marking;"⟩ : MethodName)) hown (hw _ (List.mem_of_getElem? (i := 2) rfl)) (hw _ (List.mem_of_getElem? (i := 3) rfl)) (hw _ (List.mem_of_getElem? (i := 4) rfl)) (hw _ (List.mem_of_getElem? (i := 5) rfl)) (by decide) (argsL := [(.ref b667)]) (rest := []) (own_rm1 l Z a0 hw [] b667 t0 t1 t2 h682 n0 z688 A684 g669) (W := 0) (by decide) (by decide) (by decide) (by decide) rfl (by rw [hml]; rfl) (lenOf own_pd8 rfl) rfl (by show 2 * 0 + _ ≤ _; exact Nat.le_of_eq rfl) (hb hby at_70) (fun T689 h691 v692 Y690 q693 => ?_)
     obtain ⟨r694, ra, rfl, z695, E696, F697, F698, F699, A700⟩ := q693
     generalize hes : own_es t0 t1 t2 = es at A700
     show own_Ends _ _ _ _ (T689.setTop (mkF m 73 #[.val (.int x0), .val (.int x1), .val (.int x2), .val (.int x3), .val (.int t0), .val (.int t1), .val (.int t2), .val (.ref b667), .unset, .unset, .unset, .unset] [(.ref r694)]))
     refine own_st (fun t_ => XS.astore (own_here Y690) hx rfl (hb hby at_73) rfl rfl (l' := #[.val (.int x0), .val (.int x1), .val (.int x2), .val (.int x3), .val (.int t0), .val (.int t1), .val (.int t2), .val (.ref b667), .val (.ref r694), .unset, .unset, .unset]) rfl) ?_
     show own_Ends _ _ _ _ (T689.setTop (mkF m 75 #[.val (.int x0), .val (.int x1), .val (.int x2), .val (.int x3), .val (.int t0), .val (.int t1), .val (.int t2), .val (.ref b667), .val (.ref r694), .unset, .unset, .unset] []))
     obtain ⟨ml, hml_, hm3⟩ : ∃ ml : Int32, ml.toInt = (es.length : Int) ∧ es.length ≤ 3 := own_es_len hes
     have hord : own_ord es := own_es_ord p0 p1 p2 hes
     refine own_st (fun t_ => XS.iconst (own_here Y690) hx rfl (hb hby at_75) ) ?_
     show own_Ends _ _ _ _ (T689.setTop (mkF m 76 #[.val (.int x0), .val (.int x1), .val (.int x2), .val (.int x3), .val (.int t0), .val (.int t1), .val (.int t2), .val (.ref b667), .val (.ref r694), .unset, .unset, .unset] [(.int (0 : Int32))]))
     refine own_st (fun t_ => XS.istore (own_here Y690) hx rfl (hb hby at_76) rfl (l' := #[.val (.int x0), .val (.int x1), .val (.int x2), .val (.int x3), .val (.int t0), .val (.int t1), .val (.int t2), .val (.ref b667), .val (.ref r694), .val (.int (0 : Int32)), .unset, .unset]) rfl) ?_
     show own_Ends _ _ _ _ (T689.setTop (mkF m 78 #[.val (.int x0), .val (.int x1), .val (.int x2), .val (.int x3), .val (.int t0), .val (.int t1), .val (.int t2), .val (.ref b667), .val (.ref r694), .val (.int (0 : Int32)), .unset, .unset] []))
     refine own_st (fun t_ => XS.iconst (own_here Y690) hx rfl (hb hby at_78) ) ?_
     show own_Ends _ _ _ _ (T689.setTop (mkF m 79 #[.val (.int x0), .val (.int x1), .val (.int x2), .val (.int x3), .val (.int t0), .val (.int t1), .val (.int t2), .val (.ref b667), .val (.ref r694), .val (.int (0 : Int32)), .unset, .unset] [(.int (3 : Int32))]))
     refine own_newP Y690 hx hZ (hw _ (List.mem_of_getElem? (i := 1) rfl)) rfl (hb hby at_79) rfl (by decide) (nz := 3) (cap := 3) (by decide) (by decide) (by decide) (by decide) (by decide) (ty := .int) rfl (fun T701 h703 b706 eb707 Y702 E704 A705 => ?_)
     have ne708 : r694 ≠ b706 := Nat.ne_of_lt (by rw [eb707]; exact E696.lt)
     have ne709 : ra ≠ b706 := Nat.ne_of_lt (by rw [eb707]; exact A700.lt)
     have g710 : n0 ≤ b706 := by rw [eb707]; exact z695
     replace A705 : own_A Z h703 b706 .int [(.int (0 : Int32)), (.int (0 : Int32)), (.int (0 : Int32))] := A705
     show own_Ends _ _ _ _ (T701.setTop (mkF m 81 #[.val (.int x0), .val (.int x1), .val (.int x2), .val (.int x3), .val (.int t0), .val (.int t1), .val (.int t2), .val (.ref b667), .val (.ref r694), .val (.int (0 : Int32)), .unset, .unset] [(.ref b706)]))
     refine own_st (fun t_ => XS.astore (own_here Y702) hx rfl (hb hby at_81) rfl rfl (l' := #[.val (.int x0), .val (.int x1), .val (.int x2), .val (.int x3), .val (.int t0), .val (.int t1), .val (.int t2), .val (.ref b667), .val (.ref r694), .val (.int (0 : Int32)), .val (.ref b706), .unset]) rfl) ?_
     show own_Ends _ _ _ _ (T701.setTop (mkF m 83 #[.val (.int x0), .val (.int x1), .val (.int x2), .val (.int x3), .val (.int t0), .val (.int t1), .val (.int t2), .val (.ref b667), .val (.ref r694), .val (.int (0 : Int32)), .val (.ref b706), .unset] []))
     have hJ711 : ∀ (T712 : State) (h714 : Heap) (m_ e0 e1 e2 : Int32) (Y713 : own_S p l e room_1 s m #[(.int x0), (.int x1), (.int x2), (.int x3)] below meth c n0 T712 h714 4 13) (z715 : n0 ≤ h714.size) (f716 : Exa Z h714 r694 "com/example/poset/poset/core/Marking") (f717 : Fld Z h714 r694 "com/example/poset/poset/core/Marking" "size" "I" (.int (3 : Int32))) (f718 : Fld Z h714 r694 "com/example/poset/poset/core/Marking" "entries" "[J" (.ref ra)) (f719 : Fld Z h714 r694 "com/example/poset/poset/core/Marking" "wide" "Z" (.int (0 : Int32))) (f720 : own_A Z h714 ra .long (es.map Value.long)) (f721 : own_A Z h714 b706 .int [(.int e0), (.int e1), (.int e2)]) (hm_ : m_.toInt = (es.length : Int)) (hexp : ∀ k : Nat, k < es.length → [e0, e1, e2].getD k 0 = own_pl (es.getD k 0)), own_Ends p.tables e below (own_P s n0 (own_Q_own_rm0 Z x0 x1 x2 x3 h0 n0) room_1.cells room_1.slots) (T712.setTop (mkF m 125 #[.val (.int x0), .val (.int x1), .val (.int x2), .val (.int x3), .val (.int t0), .val (.int t1), .val (.int t2), .val (.ref b667), .val (.ref r694), .val (.int m_), .val (.ref b706), .unset] [])) := by
      intro T712 h714 m_ e0 e1 e2 Y713 z715 f716 f717 f718 f719 f720 f721 hm_ hexp
      refine own_st (fun t_ => XS.aload (own_here Y713) hx rfl (hb hby at_125) rfl rfl) ?_
      show own_Ends _ _ _ _ (T712.setTop (mkF m 127 #[.val (.int x0), .val (.int x1), .val (.int x2), .val (.int x3), .val (.int t0), .val (.int t1), .val (.int t2), .val (.ref b667), .val (.ref r694), .val (.int m_), .val (.ref b706), .unset] [(.ref r694)]))
      refine own_callV Y713 hx hZ (y := (⟨"com/example/poset/poset/core/Marking", "size", "()I"⟩ : MethodName)) (z := (⟨"com/example/poset/poset/core/Marking", "size", "()I"⟩ : MethodName)) hown (hw _ (List.mem_of_getElem? (i := 30) rfl)) (hw _ (List.mem_of_getElem? (i := 31) rfl)) (notFace_of_selects (args := #[]) (mvT hZ (hw _ (List.mem_of_getElem? (i := 33) rfl)))) (hw _ (List.mem_of_getElem? (i := 33) rfl)) (hw _ (List.mem_of_getElem? (i := 32) rfl)) (hw _ (List.mem_of_getElem? (i := 4) rfl)) (hw _ (List.mem_of_getElem? (i := 34) rfl)) (by decide) (a := r694) f716 (argsL := []) (rest := []) (own_rm6 l Z a0 hw [] r694 ra es ml  h714 n0  f716 f717 f718 f719 f720 hml_ hm3 ) (W := 0) (by decide) (by decide) (by decide) (by decide) rfl (by rw [hml]; rfl) (lenOf own_pd1 rfl) rfl (by show 2 * 0 + _ ≤ _; exact Nat.le_of_eq rfl) (hb hby at_127) (fun T722 h724 v725 Y723 q726 => ?_)
      obtain ⟨rfl, rfl⟩ := q726
      show own_Ends _ _ _ _ (T722.setTop (mkF m 130 #[.val (.int x0), .val (.int x1), .val (.int x2), .val (.int x3), .val (.int t0), .val (.int t1), .val (.int t2), .val (.ref b667), .val (.ref r694), .val (.int m_), .val (.ref b706), .unset] [(.int (3 : Int32))]))
      refine own_st (fun t_ => XS.iconst (own_here Y723) hx rfl (hb hby at_130) ) ?_
      show own_Ends _ _ _ _ (T722.setTop (mkF m 131 #[.val (.int x0), .val (.int x1), .val (.int x2), .val (.int x3), .val (.int t0), .val (.int t1), .val (.int t2), .val (.ref b667), .val (.ref r694), .val (.int m_), .val (.ref b706), .unset] [(.int (3 : Int32)), (.int (3 : Int32))]))
      refine own_st (fun t_ => XS.icmpNo (own_here Y723) hx rfl (hb hby at_131) rfl (XT.ii_ne_f (by decide))) ?_
      show own_Ends _ _ _ _ (T722.setTop (mkF m 134 #[.val (.int x0), .val (.int x1), .val (.int x2), .val (.int x3), .val (.int t0), .val (.int t1), .val (.int t2), .val (.ref b667), .val (.ref r694), .val (.int m_), .val (.ref b706), .unset] []))
      refine own_st (fun t_ => XS.aload (own_here Y723) hx rfl (hb hby at_134) rfl rfl) ?_
      show own_Ends _ _ _ _ (T722.setTop (mkF m 136 #[.val (.int x0), .val (.int x1), .val (.int x2), .val (.int x3), .val (.int t0), .val (.int t1), .val (.int t2), .val (.ref b667), .val (.ref r694), .val (.int m_), .val (.ref b706), .unset] [(.ref r694)]))
      refine own_callV Y723 hx hZ (y := (⟨"com/example/poset/poset/core/Marking", "markedCount", "()I"⟩ : MethodName)) (z := (⟨"com/example/poset/poset/core/Marking", "markedCount", "()I"⟩ : MethodName)) hown (hw _ (List.mem_of_getElem? (i := 35) rfl)) (hw _ (List.mem_of_getElem? (i := 36) rfl)) (notFace_of_selects (args := #[]) (mvT hZ (hw _ (List.mem_of_getElem? (i := 38) rfl)))) (hw _ (List.mem_of_getElem? (i := 38) rfl)) (hw _ (List.mem_of_getElem? (i := 37) rfl)) (hw _ (List.mem_of_getElem? (i := 4) rfl)) (hw _ (List.mem_of_getElem? (i := 39) rfl)) (by decide) (a := r694) f716 (argsL := []) (rest := []) (own_rm7 l Z a0 hw [] r694 ra es ml  h714 n0  f716 f717 f718 f719 f720 hml_ hm3 ) (W := 0) (by decide) (by decide) (by decide) (by decide) rfl (by rw [hml]; rfl) (lenOf own_pd1 rfl) rfl (by show 2 * 0 + _ ≤ _; exact Nat.le_of_eq rfl) (hb hby at_136) (fun T727 h729 v730 Y728 q731 => ?_)
      obtain ⟨rfl, rfl⟩ := q731
      show own_Ends _ _ _ _ (T727.setTop (mkF m 139 #[.val (.int x0), .val (.int x1), .val (.int x2), .val (.int x3), .val (.int t0), .val (.int t1), .val (.int t2), .val (.ref b667), .val (.ref r694), .val (.int m_), .val (.ref b706), .unset] [(.int ml)]))
      refine own_st (fun t_ => XS.iload (own_here Y728) hx rfl (hb hby at_139) rfl) ?_
      show own_Ends _ _ _ _ (T727.setTop (mkF m 141 #[.val (.int x0), .val (.int x1), .val (.int x2), .val (.int x3), .val (.int t0), .val (.int t1), .val (.int t2), .val (.ref b667), .val (.ref r694), .val (.int m_), .val (.ref b706), .unset] [(.int m_), (.int ml)]))
      refine own_st (fun t_ => XS.icmpNo (own_here Y728) hx rfl (hb hby at_141) rfl (XT.ii_ne_f (own_eq.mpr (hml_.trans hm_.symm)))) ?_
      show own_Ends _ _ _ _ (T727.setTop (mkF m 144 #[.val (.int x0), .val (.int x1), .val (.int x2), .val (.int x3), .val (.int t0), .val (.int t1), .val (.int t2), .val (.ref b667), .val (.ref r694), .val (.int m_), .val (.ref b706), .unset] []))
      refine own_st (fun t_ => XS.aload (own_here Y728) hx rfl (hb hby at_144) rfl rfl) ?_
      show own_Ends _ _ _ _ (T727.setTop (mkF m 146 #[.val (.int x0), .val (.int x1), .val (.int x2), .val (.int x3), .val (.int t0), .val (.int t1), .val (.int t2), .val (.ref b667), .val (.ref r694), .val (.int m_), .val (.ref b706), .unset] [(.ref r694)]))
      refine own_st (fun t_ => XS.iconst (own_here Y728) hx rfl (hb hby at_146) ) ?_
      show own_Ends _ _ _ _ (T727.setTop (mkF m 147 #[.val (.int x0), .val (.int x1), .val (.int x2), .val (.int x3), .val (.int t0), .val (.int t1), .val (.int t2), .val (.ref b667), .val (.ref r694), .val (.int m_), .val (.ref b706), .unset] [(.int (0 : Int32)), (.ref r694)]))
      refine own_callV Y728 hx hZ (y := (⟨"com/example/poset/poset/core/Marking", "tokens", "(I)J"⟩ : MethodName)) (z := (⟨"com/example/poset/poset/core/Marking", "tokens", "(I)J"⟩ : MethodName)) hown (hw _ (List.mem_of_getElem? (i := 40) rfl)) (hw _ (List.mem_of_getElem? (i := 41) rfl)) (notFace_of_selects (args := #[]) (mvT hZ (hw _ (List.mem_of_getElem? (i := 43) rfl)))) (hw _ (List.mem_of_getElem? (i := 43) rfl)) (hw _ (List.mem_of_getElem? (i := 42) rfl)) (hw _ (List.mem_of_getElem? (i := 4) rfl)) (hw _ (List.mem_of_getElem? (i := 44) rfl)) (by decide) (a := r694) f716 (argsL := [(.int (0 : Int32))]) (rest := []) (own_rm8 l Z a0 hw [] r694 (0 : Int32) ra es ml h714 n0  f716 f717 f718 f719 f720 hml_ hm3 hord (by decide) (by decide)) (W := 0) (by decide) (by decide) (by decide) (by decide) rfl (by rw [hml]; rfl) (lenOf own_pd4 rfl) rfl (by show 2 * 0 + _ ≤ _; exact Nat.le_of_eq rfl) (hb hby at_147) (fun T732 h734 v735 Y733 q736 => ?_)
      obtain ⟨r737, rfl, rfl, H738⟩ := q736
      show own_Ends _ _ _ _ (T732.setTop (mkF m 150 #[.val (.int x0), .val (.int x1), .val (.int x2), .val (.int x3), .val (.int t0), .val (.int t1), .val (.int t2), .val (.ref b667), .val (.ref r694), .val (.int m_), .val (.ref b706), .unset] [(.long r737)]))
      refine own_st (fun t_ => XS.iload (own_here Y733) hx rfl (hb hby at_150) rfl) ?_
      show own_Ends _ _ _ _ (T732.setTop (mkF m 152 #[.val (.int x0), .val (.int x1), .val (.int x2), .val (.int x3), .val (.int t0), .val (.int t1), .val (.int t2), .val (.ref b667), .val (.ref r694), .val (.int m_), .val (.ref b706), .unset] [(.int t0), (.long r737)]))
      refine own_st (fun t_ => XS.i2l (own_here Y733) hx rfl (hb hby at_152) rfl) ?_
      show own_Ends _ _ _ _ (T732.setTop (mkF m 153 #[.val (.int x0), .val (.int x1), .val (.int x2), .val (.int x3), .val (.int t0), .val (.int t1), .val (.int t2), .val (.ref b667), .val (.ref r694), .val (.int m_), .val (.ref b706), .unset] [(.long (t0.toInt64)), (.long r737)]))
      refine own_st (fun t_ => XS.lcmp (own_here Y733) hx rfl (hb hby at_153) rfl) ?_
      show own_Ends _ _ _ _ (T732.setTop (mkF m 154 #[.val (.int x0), .val (.int x1), .val (.int x2), .val (.int x3), .val (.int t0), .val (.int t1), .val (.int t2), .val (.ref b667), .val (.ref r694), .val (.int m_), .val (.ref b706), .unset] [(.int (lcmpW r737 (t0.toInt64)))]))
      refine own_st (fun t_ => XS.ifNo (own_here Y733) hx rfl (hb hby at_154) rfl (XT.ll_ne_f (own_tok0 p0 p1 p2 hes H738))) ?_
      show own_Ends _ _ _ _ (T732.setTop (mkF m 157 #[.val (.int x0), .val (.int x1), .val (.int x2), .val (.int x3), .val (.int t0), .val (.int t1), .val (.int t2), .val (.ref b667), .val (.ref r694), .val (.int m_), .val (.ref b706), .unset] []))
      refine own_st (fun t_ => XS.aload (own_here Y733) hx rfl (hb hby at_157) rfl rfl) ?_
      show own_Ends _ _ _ _ (T732.setTop (mkF m 159 #[.val (.int x0), .val (.int x1), .val (.int x2), .val (.int x3), .val (.int t0), .val (.int t1), .val (.int t2), .val (.ref b667), .val (.ref r694), .val (.int m_), .val (.ref b706), .unset] [(.ref r694)]))
      refine own_st (fun t_ => XS.iconst (own_here Y733) hx rfl (hb hby at_159) ) ?_
      show own_Ends _ _ _ _ (T732.setTop (mkF m 160 #[.val (.int x0), .val (.int x1), .val (.int x2), .val (.int x3), .val (.int t0), .val (.int t1), .val (.int t2), .val (.ref b667), .val (.ref r694), .val (.int m_), .val (.ref b706), .unset] [(.int (1 : Int32)), (.ref r694)]))
      refine own_callV Y733 hx hZ (y := (⟨"com/example/poset/poset/core/Marking", "tokens", "(I)J"⟩ : MethodName)) (z := (⟨"com/example/poset/poset/core/Marking", "tokens", "(I)J"⟩ : MethodName)) hown (hw _ (List.mem_of_getElem? (i := 40) rfl)) (hw _ (List.mem_of_getElem? (i := 41) rfl)) (notFace_of_selects (args := #[]) (mvT hZ (hw _ (List.mem_of_getElem? (i := 43) rfl)))) (hw _ (List.mem_of_getElem? (i := 43) rfl)) (hw _ (List.mem_of_getElem? (i := 42) rfl)) (hw _ (List.mem_of_getElem? (i := 4) rfl)) (hw _ (List.mem_of_getElem? (i := 44) rfl)) (by decide) (a := r694) f716 (argsL := [(.int (1 : Int32))]) (rest := []) (own_rm8 l Z a0 hw [] r694 (1 : Int32) ra es ml h714 n0  f716 f717 f718 f719 f720 hml_ hm3 hord (by decide) (by decide)) (W := 0) (by decide) (by decide) (by decide) (by decide) rfl (by rw [hml]; rfl) (lenOf own_pd4 rfl) rfl (by show 2 * 0 + _ ≤ _; exact Nat.le_of_eq rfl) (hb hby at_160) (fun T739 h741 v742 Y740 q743 => ?_)
      obtain ⟨r744, rfl, rfl, H745⟩ := q743
      show own_Ends _ _ _ _ (T739.setTop (mkF m 163 #[.val (.int x0), .val (.int x1), .val (.int x2), .val (.int x3), .val (.int t0), .val (.int t1), .val (.int t2), .val (.ref b667), .val (.ref r694), .val (.int m_), .val (.ref b706), .unset] [(.long r744)]))
      refine own_st (fun t_ => XS.iload (own_here Y740) hx rfl (hb hby at_163) rfl) ?_
      show own_Ends _ _ _ _ (T739.setTop (mkF m 165 #[.val (.int x0), .val (.int x1), .val (.int x2), .val (.int x3), .val (.int t0), .val (.int t1), .val (.int t2), .val (.ref b667), .val (.ref r694), .val (.int m_), .val (.ref b706), .unset] [(.int t1), (.long r744)]))
      refine own_st (fun t_ => XS.i2l (own_here Y740) hx rfl (hb hby at_165) rfl) ?_
      show own_Ends _ _ _ _ (T739.setTop (mkF m 166 #[.val (.int x0), .val (.int x1), .val (.int x2), .val (.int x3), .val (.int t0), .val (.int t1), .val (.int t2), .val (.ref b667), .val (.ref r694), .val (.int m_), .val (.ref b706), .unset] [(.long (t1.toInt64)), (.long r744)]))
      refine own_st (fun t_ => XS.lcmp (own_here Y740) hx rfl (hb hby at_166) rfl) ?_
      show own_Ends _ _ _ _ (T739.setTop (mkF m 167 #[.val (.int x0), .val (.int x1), .val (.int x2), .val (.int x3), .val (.int t0), .val (.int t1), .val (.int t2), .val (.ref b667), .val (.ref r694), .val (.int m_), .val (.ref b706), .unset] [(.int (lcmpW r744 (t1.toInt64)))]))
      refine own_st (fun t_ => XS.ifNo (own_here Y740) hx rfl (hb hby at_167) rfl (XT.ll_ne_f (own_tok1 p0 p1 p2 hes H745))) ?_
      show own_Ends _ _ _ _ (T739.setTop (mkF m 170 #[.val (.int x0), .val (.int x1), .val (.int x2), .val (.int x3), .val (.int t0), .val (.int t1), .val (.int t2), .val (.ref b667), .val (.ref r694), .val (.int m_), .val (.ref b706), .unset] []))
      refine own_st (fun t_ => XS.aload (own_here Y740) hx rfl (hb hby at_170) rfl rfl) ?_
      show own_Ends _ _ _ _ (T739.setTop (mkF m 172 #[.val (.int x0), .val (.int x1), .val (.int x2), .val (.int x3), .val (.int t0), .val (.int t1), .val (.int t2), .val (.ref b667), .val (.ref r694), .val (.int m_), .val (.ref b706), .unset] [(.ref r694)]))
      refine own_st (fun t_ => XS.iconst (own_here Y740) hx rfl (hb hby at_172) ) ?_
      show own_Ends _ _ _ _ (T739.setTop (mkF m 173 #[.val (.int x0), .val (.int x1), .val (.int x2), .val (.int x3), .val (.int t0), .val (.int t1), .val (.int t2), .val (.ref b667), .val (.ref r694), .val (.int m_), .val (.ref b706), .unset] [(.int (2 : Int32)), (.ref r694)]))
      refine own_callV Y740 hx hZ (y := (⟨"com/example/poset/poset/core/Marking", "tokens", "(I)J"⟩ : MethodName)) (z := (⟨"com/example/poset/poset/core/Marking", "tokens", "(I)J"⟩ : MethodName)) hown (hw _ (List.mem_of_getElem? (i := 40) rfl)) (hw _ (List.mem_of_getElem? (i := 41) rfl)) (notFace_of_selects (args := #[]) (mvT hZ (hw _ (List.mem_of_getElem? (i := 43) rfl)))) (hw _ (List.mem_of_getElem? (i := 43) rfl)) (hw _ (List.mem_of_getElem? (i := 42) rfl)) (hw _ (List.mem_of_getElem? (i := 4) rfl)) (hw _ (List.mem_of_getElem? (i := 44) rfl)) (by decide) (a := r694) f716 (argsL := [(.int (2 : Int32))]) (rest := []) (own_rm8 l Z a0 hw [] r694 (2 : Int32) ra es ml h714 n0  f716 f717 f718 f719 f720 hml_ hm3 hord (by decide) (by decide)) (W := 0) (by decide) (by decide) (by decide) (by decide) rfl (by rw [hml]; rfl) (lenOf own_pd4 rfl) rfl (by show 2 * 0 + _ ≤ _; exact Nat.le_of_eq rfl) (hb hby at_173) (fun T746 h748 v749 Y747 q750 => ?_)
      obtain ⟨r751, rfl, rfl, H752⟩ := q750
      show own_Ends _ _ _ _ (T746.setTop (mkF m 176 #[.val (.int x0), .val (.int x1), .val (.int x2), .val (.int x3), .val (.int t0), .val (.int t1), .val (.int t2), .val (.ref b667), .val (.ref r694), .val (.int m_), .val (.ref b706), .unset] [(.long r751)]))
      refine own_st (fun t_ => XS.iload (own_here Y747) hx rfl (hb hby at_176) rfl) ?_
      show own_Ends _ _ _ _ (T746.setTop (mkF m 178 #[.val (.int x0), .val (.int x1), .val (.int x2), .val (.int x3), .val (.int t0), .val (.int t1), .val (.int t2), .val (.ref b667), .val (.ref r694), .val (.int m_), .val (.ref b706), .unset] [(.int t2), (.long r751)]))
      refine own_st (fun t_ => XS.i2l (own_here Y747) hx rfl (hb hby at_178) rfl) ?_
      show own_Ends _ _ _ _ (T746.setTop (mkF m 179 #[.val (.int x0), .val (.int x1), .val (.int x2), .val (.int x3), .val (.int t0), .val (.int t1), .val (.int t2), .val (.ref b667), .val (.ref r694), .val (.int m_), .val (.ref b706), .unset] [(.long (t2.toInt64)), (.long r751)]))
      refine own_st (fun t_ => XS.lcmp (own_here Y747) hx rfl (hb hby at_179) rfl) ?_
      show own_Ends _ _ _ _ (T746.setTop (mkF m 180 #[.val (.int x0), .val (.int x1), .val (.int x2), .val (.int x3), .val (.int t0), .val (.int t1), .val (.int t2), .val (.ref b667), .val (.ref r694), .val (.int m_), .val (.ref b706), .unset] [(.int (lcmpW r751 (t2.toInt64)))]))
      refine own_st (fun t_ => XS.ifNo (own_here Y747) hx rfl (hb hby at_180) rfl (XT.ll_ne_f (own_tok2 p0 p1 p2 hes H752))) ?_
      show own_Ends _ _ _ _ (T746.setTop (mkF m 183 #[.val (.int x0), .val (.int x1), .val (.int x2), .val (.int x3), .val (.int t0), .val (.int t1), .val (.int t2), .val (.ref b667), .val (.ref r694), .val (.int m_), .val (.ref b706), .unset] []))
      refine own_st (fun t_ => XS.iconst (own_here Y747) hx rfl (hb hby at_183) ) ?_
      show own_Ends _ _ _ _ (T746.setTop (mkF m 184 #[.val (.int x0), .val (.int x1), .val (.int x2), .val (.int x3), .val (.int t0), .val (.int t1), .val (.int t2), .val (.ref b667), .val (.ref r694), .val (.int m_), .val (.ref b706), .unset] [(.int (1 : Int32))]))
      refine own_st (fun t_ => XS.goto (own_here Y747) hx rfl (pc0 := 184) (pc' := 188) rfl (hb hby at_184) (by decide) (by decide)) ?_
      show own_Ends _ _ _ _ (T746.setTop (mkF m 188 #[.val (.int x0), .val (.int x1), .val (.int x2), .val (.int x3), .val (.int t0), .val (.int t1), .val (.int t2), .val (.ref b667), .val (.ref r694), .val (.int m_), .val (.ref b706), .unset] [(.int (1 : Int32))]))
      refine own_st (fun t_ => XS.istore (own_here Y747) hx rfl (hb hby at_188) rfl (l' := #[.val (.int x0), .val (.int x1), .val (.int x2), .val (.int x3), .val (.int t0), .val (.int t1), .val (.int t2), .val (.ref b667), .val (.ref r694), .val (.int m_), .val (.ref b706), .val (.int (1 : Int32))]) rfl) ?_
      show own_Ends _ _ _ _ (T746.setTop (mkF m 190 #[.val (.int x0), .val (.int x1), .val (.int x2), .val (.int x3), .val (.int t0), .val (.int t1), .val (.int t2), .val (.ref b667), .val (.ref r694), .val (.int m_), .val (.ref b706), .val (.int (1 : Int32))] []))
      refine own_st (fun t_ => XS.iload (own_here Y747) hx rfl (hb hby at_190) rfl) ?_
      show own_Ends _ _ _ _ (T746.setTop (mkF m 192 #[.val (.int x0), .val (.int x1), .val (.int x2), .val (.int x3), .val (.int t0), .val (.int t1), .val (.int t2), .val (.ref b667), .val (.ref r694), .val (.int m_), .val (.ref b706), .val (.int (1 : Int32))] [(.int (1 : Int32))]))
      refine own_st (fun t_ => XS.ifNo (own_here Y747) hx rfl (hb hby at_192) rfl (XT.i0_eq_f (by decide))) ?_
      show own_Ends _ _ _ _ (T746.setTop (mkF m 195 #[.val (.int x0), .val (.int x1), .val (.int x2), .val (.int x3), .val (.int t0), .val (.int t1), .val (.int t2), .val (.ref b667), .val (.ref r694), .val (.int m_), .val (.ref b706), .val (.int (1 : Int32))] []))
      refine own_st (fun t_ => XS.iload (own_here Y747) hx rfl (hb hby at_195) rfl) ?_
      show own_Ends _ _ _ _ (T746.setTop (mkF m 197 #[.val (.int x0), .val (.int x1), .val (.int x2), .val (.int x3), .val (.int t0), .val (.int t1), .val (.int t2), .val (.ref b667), .val (.ref r694), .val (.int m_), .val (.ref b706), .val (.int (1 : Int32))] [(.int m_)]))
      refine own_st (fun t_ => XS.iconst (own_here Y747) hx rfl (hb hby at_197) ) ?_
      show own_Ends _ _ _ _ (T746.setTop (mkF m 198 #[.val (.int x0), .val (.int x1), .val (.int x2), .val (.int x3), .val (.int t0), .val (.int t1), .val (.int t2), .val (.ref b667), .val (.ref r694), .val (.int m_), .val (.ref b706), .val (.int (1 : Int32))] [(.int (1 : Int32)), (.int m_)]))
      by_cases c198_753 : m_ < (1 : Int32)
      ·
       refine own_st (fun t_ => XS.icmpYes (own_here Y747) hx rfl (pc0 := 198) (pc' := 214) rfl (hb hby at_198) rfl (XT.ii_lt_t c198_753) (by decide) (by decide)) ?_
       show own_Ends _ _ _ _ (T746.setTop (mkF m 214 #[.val (.int x0), .val (.int x1), .val (.int x2), .val (.int x3), .val (.int t0), .val (.int t1), .val (.int t2), .val (.ref b667), .val (.ref r694), .val (.int m_), .val (.ref b706), .val (.int (1 : Int32))] []))
       refine own_st (fun t_ => XS.iload (own_here Y747) hx rfl (hb hby at_214) rfl) ?_
       show own_Ends _ _ _ _ (T746.setTop (mkF m 216 #[.val (.int x0), .val (.int x1), .val (.int x2), .val (.int x3), .val (.int t0), .val (.int t1), .val (.int t2), .val (.ref b667), .val (.ref r694), .val (.int m_), .val (.ref b706), .val (.int (1 : Int32))] [(.int m_)]))
       refine own_st (fun t_ => XS.iconst (own_here Y747) hx rfl (hb hby at_216) ) ?_
       show own_Ends _ _ _ _ (T746.setTop (mkF m 217 #[.val (.int x0), .val (.int x1), .val (.int x2), .val (.int x3), .val (.int t0), .val (.int t1), .val (.int t2), .val (.ref b667), .val (.ref r694), .val (.int m_), .val (.ref b706), .val (.int (1 : Int32))] [(.int (2 : Int32)), (.int m_)]))
       by_cases c217_754 : m_ < (2 : Int32)
       ·
        refine own_st (fun t_ => XS.icmpYes (own_here Y747) hx rfl (pc0 := 217) (pc' := 233) rfl (hb hby at_217) rfl (XT.ii_lt_t c217_754) (by decide) (by decide)) ?_
        show own_Ends _ _ _ _ (T746.setTop (mkF m 233 #[.val (.int x0), .val (.int x1), .val (.int x2), .val (.int x3), .val (.int t0), .val (.int t1), .val (.int t2), .val (.ref b667), .val (.ref r694), .val (.int m_), .val (.ref b706), .val (.int (1 : Int32))] []))
        refine own_st (fun t_ => XS.iload (own_here Y747) hx rfl (hb hby at_233) rfl) ?_
        show own_Ends _ _ _ _ (T746.setTop (mkF m 235 #[.val (.int x0), .val (.int x1), .val (.int x2), .val (.int x3), .val (.int t0), .val (.int t1), .val (.int t2), .val (.ref b667), .val (.ref r694), .val (.int m_), .val (.ref b706), .val (.int (1 : Int32))] [(.int m_)]))
        refine own_st (fun t_ => XS.iconst (own_here Y747) hx rfl (hb hby at_235) ) ?_
        show own_Ends _ _ _ _ (T746.setTop (mkF m 236 #[.val (.int x0), .val (.int x1), .val (.int x2), .val (.int x3), .val (.int t0), .val (.int t1), .val (.int t2), .val (.ref b667), .val (.ref r694), .val (.int m_), .val (.ref b706), .val (.int (1 : Int32))] [(.int (3 : Int32)), (.int m_)]))
        by_cases c236_755 : m_ < (3 : Int32)
        ·
         refine own_st (fun t_ => XS.icmpYes (own_here Y747) hx rfl (pc0 := 236) (pc' := 252) rfl (hb hby at_236) rfl (XT.ii_lt_t c236_755) (by decide) (by decide)) ?_
         show own_Ends _ _ _ _ (T746.setTop (mkF m 252 #[.val (.int x0), .val (.int x1), .val (.int x2), .val (.int x3), .val (.int t0), .val (.int t1), .val (.int t2), .val (.ref b667), .val (.ref r694), .val (.int m_), .val (.ref b706), .val (.int (1 : Int32))] []))
         refine own_st (fun t_ => XS.iconst (own_here Y747) hx rfl (hb hby at_252) ) ?_
         show own_Ends _ _ _ _ (T746.setTop (mkF m 253 #[.val (.int x0), .val (.int x1), .val (.int x2), .val (.int x3), .val (.int t0), .val (.int t1), .val (.int t2), .val (.ref b667), .val (.ref r694), .val (.int m_), .val (.ref b706), .val (.int (1 : Int32))] [(.int (1 : Int32))]))
         refine own_st (fun t_ => XS.goto (own_here Y747) hx rfl (pc0 := 253) (pc' := 257) rfl (hb hby at_253) (by decide) (by decide)) ?_
         show own_Ends _ _ _ _ (T746.setTop (mkF m 257 #[.val (.int x0), .val (.int x1), .val (.int x2), .val (.int x3), .val (.int t0), .val (.int t1), .val (.int t2), .val (.ref b667), .val (.ref r694), .val (.int m_), .val (.ref b706), .val (.int (1 : Int32))] [(.int (1 : Int32))]))
         refine own_st (fun t_ => XS.istore (own_here Y747) hx rfl (hb hby at_257) rfl (l' := #[.val (.int x0), .val (.int x1), .val (.int x2), .val (.int x3), .val (.int t0), .val (.int t1), .val (.int t2), .val (.ref b667), .val (.ref r694), .val (.int m_), .val (.ref b706), .val (.int (1 : Int32))]) rfl) ?_
         show own_Ends _ _ _ _ (T746.setTop (mkF m 259 #[.val (.int x0), .val (.int x1), .val (.int x2), .val (.int x3), .val (.int t0), .val (.int t1), .val (.int t2), .val (.ref b667), .val (.ref r694), .val (.int m_), .val (.ref b706), .val (.int (1 : Int32))] []))
         refine own_st (fun t_ => XS.iload (own_here Y747) hx rfl (hb hby at_259) rfl) ?_
         show own_Ends _ _ _ _ (T746.setTop (mkF m 261 #[.val (.int x0), .val (.int x1), .val (.int x2), .val (.int x3), .val (.int t0), .val (.int t1), .val (.int t2), .val (.ref b667), .val (.ref r694), .val (.int m_), .val (.ref b706), .val (.int (1 : Int32))] [(.int (1 : Int32))]))
         refine own_retN Y747 hx hlk (t := .boolean) hret (by simp) (hb hby at_261) (by decide) (by decide) ?_
         exact rfl
        ·
         refine own_st (fun t_ => XS.icmpNo (own_here Y747) hx rfl (hb hby at_236) rfl (XT.ii_lt_f c236_755)) ?_
         show own_Ends _ _ _ _ (T746.setTop (mkF m 239 #[.val (.int x0), .val (.int x1), .val (.int x2), .val (.int x3), .val (.int t0), .val (.int t1), .val (.int t2), .val (.ref b667), .val (.ref r694), .val (.int m_), .val (.ref b706), .val (.int (1 : Int32))] []))
         have hk2 : 2 < es.length := by have := c236_755; rw [own_lt, hm_] at this; have e1 : (3 : Int32).toInt = 3 := rfl; omega
         refine own_st (fun t_ => XS.aload (own_here Y747) hx rfl (hb hby at_239) rfl rfl) ?_
         show own_Ends _ _ _ _ (T746.setTop (mkF m 241 #[.val (.int x0), .val (.int x1), .val (.int x2), .val (.int x3), .val (.int t0), .val (.int t1), .val (.int t2), .val (.ref b667), .val (.ref r694), .val (.int m_), .val (.ref b706), .val (.int (1 : Int32))] [(.ref r694)]))
         refine own_st (fun t_ => XS.iconst (own_here Y747) hx rfl (hb hby at_241) ) ?_
         show own_Ends _ _ _ _ (T746.setTop (mkF m 242 #[.val (.int x0), .val (.int x1), .val (.int x2), .val (.int x3), .val (.int t0), .val (.int t1), .val (.int t2), .val (.ref b667), .val (.ref r694), .val (.int m_), .val (.ref b706), .val (.int (1 : Int32))] [(.int (2 : Int32)), (.ref r694)]))
         refine own_callV Y747 hx hZ (y := (⟨"com/example/poset/poset/core/Marking", "markedPlace", "(I)I"⟩ : MethodName)) (z := (⟨"com/example/poset/poset/core/Marking", "markedPlace", "(I)I"⟩ : MethodName)) hown (hw _ (List.mem_of_getElem? (i := 67) rfl)) (hw _ (List.mem_of_getElem? (i := 68) rfl)) (notFace_of_selects (args := #[]) (mvT hZ (hw _ (List.mem_of_getElem? (i := 70) rfl)))) (hw _ (List.mem_of_getElem? (i := 70) rfl)) (hw _ (List.mem_of_getElem? (i := 69) rfl)) (hw _ (List.mem_of_getElem? (i := 4) rfl)) (hw _ (List.mem_of_getElem? (i := 71) rfl)) (by decide) (a := r694) f716 (argsL := [(.int (2 : Int32))]) (rest := []) (own_rm14 l Z a0 hw [] r694 (2 : Int32) ra es ml 2 h714 n0  f716 f717 f718 f719 f720 hml_ hm3 rfl (by omega)) (W := 0) (by decide) (by decide) (by decide) (by decide) rfl (by rw [hml]; rfl) (lenOf own_pd0 rfl) rfl (by show 2 * 0 + _ ≤ _; exact Nat.le_of_eq rfl) (hb hby at_242) (fun T756 h758 v759 Y757 q760 => ?_)
         obtain ⟨rfl, rfl⟩ := q760
         show own_Ends _ _ _ _ (T756.setTop (mkF m 245 #[.val (.int x0), .val (.int x1), .val (.int x2), .val (.int x3), .val (.int t0), .val (.int t1), .val (.int t2), .val (.ref b667), .val (.ref r694), .val (.int m_), .val (.ref b706), .val (.int (1 : Int32))] [(.int (own_pl (es.getD 2 0)))]))
         refine own_st (fun t_ => XS.aload (own_here Y757) hx rfl (hb hby at_245) rfl rfl) ?_
         show own_Ends _ _ _ _ (T756.setTop (mkF m 247 #[.val (.int x0), .val (.int x1), .val (.int x2), .val (.int x3), .val (.int t0), .val (.int t1), .val (.int t2), .val (.ref b667), .val (.ref r694), .val (.int m_), .val (.ref b706), .val (.int (1 : Int32))] [(.ref b706), (.int (own_pl (es.getD 2 0)))]))
         refine own_st (fun t_ => XS.iconst (own_here Y757) hx rfl (hb hby at_247) ) ?_
         show own_Ends _ _ _ _ (T756.setTop (mkF m 248 #[.val (.int x0), .val (.int x1), .val (.int x2), .val (.int x3), .val (.int t0), .val (.int t1), .val (.int t2), .val (.ref b667), .val (.ref r694), .val (.int m_), .val (.ref b706), .val (.int (1 : Int32))] [(.int (2 : Int32)), (.ref b706), (.int (own_pl (es.getD 2 0)))]))
         refine own_ldI Y757 hx hZ f721 (i := 2) (by decide) (by decide) (Nat.le_of_ble_eq_true rfl) (v := (.int e2)) rfl rfl rfl (hb hby at_248) ?_
         show own_Ends _ _ _ _ (T756.setTop (mkF m 249 #[.val (.int x0), .val (.int x1), .val (.int x2), .val (.int x3), .val (.int t0), .val (.int t1), .val (.int t2), .val (.ref b667), .val (.ref r694), .val (.int m_), .val (.ref b706), .val (.int (1 : Int32))] [(.int e2), (.int (own_pl (es.getD 2 0)))]))
         refine own_st (fun t_ => XS.icmpNo (own_here Y757) hx rfl (hb hby at_249) rfl (XT.ii_ne_f (hexp 2 hk2).symm)) ?_
         show own_Ends _ _ _ _ (T756.setTop (mkF m 252 #[.val (.int x0), .val (.int x1), .val (.int x2), .val (.int x3), .val (.int t0), .val (.int t1), .val (.int t2), .val (.ref b667), .val (.ref r694), .val (.int m_), .val (.ref b706), .val (.int (1 : Int32))] []))
         refine own_st (fun t_ => XS.iconst (own_here Y757) hx rfl (hb hby at_252) ) ?_
         show own_Ends _ _ _ _ (T756.setTop (mkF m 253 #[.val (.int x0), .val (.int x1), .val (.int x2), .val (.int x3), .val (.int t0), .val (.int t1), .val (.int t2), .val (.ref b667), .val (.ref r694), .val (.int m_), .val (.ref b706), .val (.int (1 : Int32))] [(.int (1 : Int32))]))
         refine own_st (fun t_ => XS.goto (own_here Y757) hx rfl (pc0 := 253) (pc' := 257) rfl (hb hby at_253) (by decide) (by decide)) ?_
         show own_Ends _ _ _ _ (T756.setTop (mkF m 257 #[.val (.int x0), .val (.int x1), .val (.int x2), .val (.int x3), .val (.int t0), .val (.int t1), .val (.int t2), .val (.ref b667), .val (.ref r694), .val (.int m_), .val (.ref b706), .val (.int (1 : Int32))] [(.int (1 : Int32))]))
         refine own_st (fun t_ => XS.istore (own_here Y757) hx rfl (hb hby at_257) rfl (l' := #[.val (.int x0), .val (.int x1), .val (.int x2), .val (.int x3), .val (.int t0), .val (.int t1), .val (.int t2), .val (.ref b667), .val (.ref r694), .val (.int m_), .val (.ref b706), .val (.int (1 : Int32))]) rfl) ?_
         show own_Ends _ _ _ _ (T756.setTop (mkF m 259 #[.val (.int x0), .val (.int x1), .val (.int x2), .val (.int x3), .val (.int t0), .val (.int t1), .val (.int t2), .val (.ref b667), .val (.ref r694), .val (.int m_), .val (.ref b706), .val (.int (1 : Int32))] []))
         refine own_st (fun t_ => XS.iload (own_here Y757) hx rfl (hb hby at_259) rfl) ?_
         show own_Ends _ _ _ _ (T756.setTop (mkF m 261 #[.val (.int x0), .val (.int x1), .val (.int x2), .val (.int x3), .val (.int t0), .val (.int t1), .val (.int t2), .val (.ref b667), .val (.ref r694), .val (.int m_), .val (.ref b706), .val (.int (1 : Int32))] [(.int (1 : Int32))]))
         refine own_retN Y757 hx hlk (t := .boolean) hret (by simp) (hb hby at_261) (by decide) (by decide) ?_
         exact rfl
       ·
        refine own_st (fun t_ => XS.icmpNo (own_here Y747) hx rfl (hb hby at_217) rfl (XT.ii_lt_f c217_754)) ?_
        show own_Ends _ _ _ _ (T746.setTop (mkF m 220 #[.val (.int x0), .val (.int x1), .val (.int x2), .val (.int x3), .val (.int t0), .val (.int t1), .val (.int t2), .val (.ref b667), .val (.ref r694), .val (.int m_), .val (.ref b706), .val (.int (1 : Int32))] []))
        have hk1 : 1 < es.length := by have := c217_754; rw [own_lt, hm_] at this; have e1 : (2 : Int32).toInt = 2 := rfl; omega
        refine own_st (fun t_ => XS.aload (own_here Y747) hx rfl (hb hby at_220) rfl rfl) ?_
        show own_Ends _ _ _ _ (T746.setTop (mkF m 222 #[.val (.int x0), .val (.int x1), .val (.int x2), .val (.int x3), .val (.int t0), .val (.int t1), .val (.int t2), .val (.ref b667), .val (.ref r694), .val (.int m_), .val (.ref b706), .val (.int (1 : Int32))] [(.ref r694)]))
        refine own_st (fun t_ => XS.iconst (own_here Y747) hx rfl (hb hby at_222) ) ?_
        show own_Ends _ _ _ _ (T746.setTop (mkF m 223 #[.val (.int x0), .val (.int x1), .val (.int x2), .val (.int x3), .val (.int t0), .val (.int t1), .val (.int t2), .val (.ref b667), .val (.ref r694), .val (.int m_), .val (.ref b706), .val (.int (1 : Int32))] [(.int (1 : Int32)), (.ref r694)]))
        refine own_callV Y747 hx hZ (y := (⟨"com/example/poset/poset/core/Marking", "markedPlace", "(I)I"⟩ : MethodName)) (z := (⟨"com/example/poset/poset/core/Marking", "markedPlace", "(I)I"⟩ : MethodName)) hown (hw _ (List.mem_of_getElem? (i := 67) rfl)) (hw _ (List.mem_of_getElem? (i := 68) rfl)) (notFace_of_selects (args := #[]) (mvT hZ (hw _ (List.mem_of_getElem? (i := 70) rfl)))) (hw _ (List.mem_of_getElem? (i := 70) rfl)) (hw _ (List.mem_of_getElem? (i := 69) rfl)) (hw _ (List.mem_of_getElem? (i := 4) rfl)) (hw _ (List.mem_of_getElem? (i := 71) rfl)) (by decide) (a := r694) f716 (argsL := [(.int (1 : Int32))]) (rest := []) (own_rm14 l Z a0 hw [] r694 (1 : Int32) ra es ml 1 h714 n0  f716 f717 f718 f719 f720 hml_ hm3 rfl (by omega)) (W := 0) (by decide) (by decide) (by decide) (by decide) rfl (by rw [hml]; rfl) (lenOf own_pd0 rfl) rfl (by show 2 * 0 + _ ≤ _; exact Nat.le_of_eq rfl) (hb hby at_223) (fun T761 h763 v764 Y762 q765 => ?_)
        obtain ⟨rfl, rfl⟩ := q765
        show own_Ends _ _ _ _ (T761.setTop (mkF m 226 #[.val (.int x0), .val (.int x1), .val (.int x2), .val (.int x3), .val (.int t0), .val (.int t1), .val (.int t2), .val (.ref b667), .val (.ref r694), .val (.int m_), .val (.ref b706), .val (.int (1 : Int32))] [(.int (own_pl (es.getD 1 0)))]))
        refine own_st (fun t_ => XS.aload (own_here Y762) hx rfl (hb hby at_226) rfl rfl) ?_
        show own_Ends _ _ _ _ (T761.setTop (mkF m 228 #[.val (.int x0), .val (.int x1), .val (.int x2), .val (.int x3), .val (.int t0), .val (.int t1), .val (.int t2), .val (.ref b667), .val (.ref r694), .val (.int m_), .val (.ref b706), .val (.int (1 : Int32))] [(.ref b706), (.int (own_pl (es.getD 1 0)))]))
        refine own_st (fun t_ => XS.iconst (own_here Y762) hx rfl (hb hby at_228) ) ?_
        show own_Ends _ _ _ _ (T761.setTop (mkF m 229 #[.val (.int x0), .val (.int x1), .val (.int x2), .val (.int x3), .val (.int t0), .val (.int t1), .val (.int t2), .val (.ref b667), .val (.ref r694), .val (.int m_), .val (.ref b706), .val (.int (1 : Int32))] [(.int (1 : Int32)), (.ref b706), (.int (own_pl (es.getD 1 0)))]))
        refine own_ldI Y762 hx hZ f721 (i := 1) (by decide) (by decide) (Nat.le_of_ble_eq_true rfl) (v := (.int e1)) rfl rfl rfl (hb hby at_229) ?_
        show own_Ends _ _ _ _ (T761.setTop (mkF m 230 #[.val (.int x0), .val (.int x1), .val (.int x2), .val (.int x3), .val (.int t0), .val (.int t1), .val (.int t2), .val (.ref b667), .val (.ref r694), .val (.int m_), .val (.ref b706), .val (.int (1 : Int32))] [(.int e1), (.int (own_pl (es.getD 1 0)))]))
        refine own_st (fun t_ => XS.icmpNo (own_here Y762) hx rfl (hb hby at_230) rfl (XT.ii_ne_f (hexp 1 hk1).symm)) ?_
        show own_Ends _ _ _ _ (T761.setTop (mkF m 233 #[.val (.int x0), .val (.int x1), .val (.int x2), .val (.int x3), .val (.int t0), .val (.int t1), .val (.int t2), .val (.ref b667), .val (.ref r694), .val (.int m_), .val (.ref b706), .val (.int (1 : Int32))] []))
        refine own_st (fun t_ => XS.iload (own_here Y762) hx rfl (hb hby at_233) rfl) ?_
        show own_Ends _ _ _ _ (T761.setTop (mkF m 235 #[.val (.int x0), .val (.int x1), .val (.int x2), .val (.int x3), .val (.int t0), .val (.int t1), .val (.int t2), .val (.ref b667), .val (.ref r694), .val (.int m_), .val (.ref b706), .val (.int (1 : Int32))] [(.int m_)]))
        refine own_st (fun t_ => XS.iconst (own_here Y762) hx rfl (hb hby at_235) ) ?_
        show own_Ends _ _ _ _ (T761.setTop (mkF m 236 #[.val (.int x0), .val (.int x1), .val (.int x2), .val (.int x3), .val (.int t0), .val (.int t1), .val (.int t2), .val (.ref b667), .val (.ref r694), .val (.int m_), .val (.ref b706), .val (.int (1 : Int32))] [(.int (3 : Int32)), (.int m_)]))
        by_cases c236_766 : m_ < (3 : Int32)
        ·
         refine own_st (fun t_ => XS.icmpYes (own_here Y762) hx rfl (pc0 := 236) (pc' := 252) rfl (hb hby at_236) rfl (XT.ii_lt_t c236_766) (by decide) (by decide)) ?_
         show own_Ends _ _ _ _ (T761.setTop (mkF m 252 #[.val (.int x0), .val (.int x1), .val (.int x2), .val (.int x3), .val (.int t0), .val (.int t1), .val (.int t2), .val (.ref b667), .val (.ref r694), .val (.int m_), .val (.ref b706), .val (.int (1 : Int32))] []))
         refine own_st (fun t_ => XS.iconst (own_here Y762) hx rfl (hb hby at_252) ) ?_
         show own_Ends _ _ _ _ (T761.setTop (mkF m 253 #[.val (.int x0), .val (.int x1), .val (.int x2), .val (.int x3), .val (.int t0), .val (.int t1), .val (.int t2), .val (.ref b667), .val (.ref r694), .val (.int m_), .val (.ref b706), .val (.int (1 : Int32))] [(.int (1 : Int32))]))
         refine own_st (fun t_ => XS.goto (own_here Y762) hx rfl (pc0 := 253) (pc' := 257) rfl (hb hby at_253) (by decide) (by decide)) ?_
         show own_Ends _ _ _ _ (T761.setTop (mkF m 257 #[.val (.int x0), .val (.int x1), .val (.int x2), .val (.int x3), .val (.int t0), .val (.int t1), .val (.int t2), .val (.ref b667), .val (.ref r694), .val (.int m_), .val (.ref b706), .val (.int (1 : Int32))] [(.int (1 : Int32))]))
         refine own_st (fun t_ => XS.istore (own_here Y762) hx rfl (hb hby at_257) rfl (l' := #[.val (.int x0), .val (.int x1), .val (.int x2), .val (.int x3), .val (.int t0), .val (.int t1), .val (.int t2), .val (.ref b667), .val (.ref r694), .val (.int m_), .val (.ref b706), .val (.int (1 : Int32))]) rfl) ?_
         show own_Ends _ _ _ _ (T761.setTop (mkF m 259 #[.val (.int x0), .val (.int x1), .val (.int x2), .val (.int x3), .val (.int t0), .val (.int t1), .val (.int t2), .val (.ref b667), .val (.ref r694), .val (.int m_), .val (.ref b706), .val (.int (1 : Int32))] []))
         refine own_st (fun t_ => XS.iload (own_here Y762) hx rfl (hb hby at_259) rfl) ?_
         show own_Ends _ _ _ _ (T761.setTop (mkF m 261 #[.val (.int x0), .val (.int x1), .val (.int x2), .val (.int x3), .val (.int t0), .val (.int t1), .val (.int t2), .val (.ref b667), .val (.ref r694), .val (.int m_), .val (.ref b706), .val (.int (1 : Int32))] [(.int (1 : Int32))]))
         refine own_retN Y762 hx hlk (t := .boolean) hret (by simp) (hb hby at_261) (by decide) (by decide) ?_
         exact rfl
        ·
         refine own_st (fun t_ => XS.icmpNo (own_here Y762) hx rfl (hb hby at_236) rfl (XT.ii_lt_f c236_766)) ?_
         show own_Ends _ _ _ _ (T761.setTop (mkF m 239 #[.val (.int x0), .val (.int x1), .val (.int x2), .val (.int x3), .val (.int t0), .val (.int t1), .val (.int t2), .val (.ref b667), .val (.ref r694), .val (.int m_), .val (.ref b706), .val (.int (1 : Int32))] []))
         have hk2 : 2 < es.length := by have := c236_766; rw [own_lt, hm_] at this; have e1 : (3 : Int32).toInt = 3 := rfl; omega
         refine own_st (fun t_ => XS.aload (own_here Y762) hx rfl (hb hby at_239) rfl rfl) ?_
         show own_Ends _ _ _ _ (T761.setTop (mkF m 241 #[.val (.int x0), .val (.int x1), .val (.int x2), .val (.int x3), .val (.int t0), .val (.int t1), .val (.int t2), .val (.ref b667), .val (.ref r694), .val (.int m_), .val (.ref b706), .val (.int (1 : Int32))] [(.ref r694)]))
         refine own_st (fun t_ => XS.iconst (own_here Y762) hx rfl (hb hby at_241) ) ?_
         show own_Ends _ _ _ _ (T761.setTop (mkF m 242 #[.val (.int x0), .val (.int x1), .val (.int x2), .val (.int x3), .val (.int t0), .val (.int t1), .val (.int t2), .val (.ref b667), .val (.ref r694), .val (.int m_), .val (.ref b706), .val (.int (1 : Int32))] [(.int (2 : Int32)), (.ref r694)]))
         refine own_callV Y762 hx hZ (y := (⟨"com/example/poset/poset/core/Marking", "markedPlace", "(I)I"⟩ : MethodName)) (z := (⟨"com/example/poset/poset/core/Marking", "markedPlace", "(I)I"⟩ : MethodName)) hown (hw _ (List.mem_of_getElem? (i := 67) rfl)) (hw _ (List.mem_of_getElem? (i := 68) rfl)) (notFace_of_selects (args := #[]) (mvT hZ (hw _ (List.mem_of_getElem? (i := 70) rfl)))) (hw _ (List.mem_of_getElem? (i := 70) rfl)) (hw _ (List.mem_of_getElem? (i := 69) rfl)) (hw _ (List.mem_of_getElem? (i := 4) rfl)) (hw _ (List.mem_of_getElem? (i := 71) rfl)) (by decide) (a := r694) f716 (argsL := [(.int (2 : Int32))]) (rest := []) (own_rm14 l Z a0 hw [] r694 (2 : Int32) ra es ml 2 h714 n0  f716 f717 f718 f719 f720 hml_ hm3 rfl (by omega)) (W := 0) (by decide) (by decide) (by decide) (by decide) rfl (by rw [hml]; rfl) (lenOf own_pd0 rfl) rfl (by show 2 * 0 + _ ≤ _; exact Nat.le_of_eq rfl) (hb hby at_242) (fun T767 h769 v770 Y768 q771 => ?_)
         obtain ⟨rfl, rfl⟩ := q771
         show own_Ends _ _ _ _ (T767.setTop (mkF m 245 #[.val (.int x0), .val (.int x1), .val (.int x2), .val (.int x3), .val (.int t0), .val (.int t1), .val (.int t2), .val (.ref b667), .val (.ref r694), .val (.int m_), .val (.ref b706), .val (.int (1 : Int32))] [(.int (own_pl (es.getD 2 0)))]))
         refine own_st (fun t_ => XS.aload (own_here Y768) hx rfl (hb hby at_245) rfl rfl) ?_
         show own_Ends _ _ _ _ (T767.setTop (mkF m 247 #[.val (.int x0), .val (.int x1), .val (.int x2), .val (.int x3), .val (.int t0), .val (.int t1), .val (.int t2), .val (.ref b667), .val (.ref r694), .val (.int m_), .val (.ref b706), .val (.int (1 : Int32))] [(.ref b706), (.int (own_pl (es.getD 2 0)))]))
         refine own_st (fun t_ => XS.iconst (own_here Y768) hx rfl (hb hby at_247) ) ?_
         show own_Ends _ _ _ _ (T767.setTop (mkF m 248 #[.val (.int x0), .val (.int x1), .val (.int x2), .val (.int x3), .val (.int t0), .val (.int t1), .val (.int t2), .val (.ref b667), .val (.ref r694), .val (.int m_), .val (.ref b706), .val (.int (1 : Int32))] [(.int (2 : Int32)), (.ref b706), (.int (own_pl (es.getD 2 0)))]))
         refine own_ldI Y768 hx hZ f721 (i := 2) (by decide) (by decide) (Nat.le_of_ble_eq_true rfl) (v := (.int e2)) rfl rfl rfl (hb hby at_248) ?_
         show own_Ends _ _ _ _ (T767.setTop (mkF m 249 #[.val (.int x0), .val (.int x1), .val (.int x2), .val (.int x3), .val (.int t0), .val (.int t1), .val (.int t2), .val (.ref b667), .val (.ref r694), .val (.int m_), .val (.ref b706), .val (.int (1 : Int32))] [(.int e2), (.int (own_pl (es.getD 2 0)))]))
         refine own_st (fun t_ => XS.icmpNo (own_here Y768) hx rfl (hb hby at_249) rfl (XT.ii_ne_f (hexp 2 hk2).symm)) ?_
         show own_Ends _ _ _ _ (T767.setTop (mkF m 252 #[.val (.int x0), .val (.int x1), .val (.int x2), .val (.int x3), .val (.int t0), .val (.int t1), .val (.int t2), .val (.ref b667), .val (.ref r694), .val (.int m_), .val (.ref b706), .val (.int (1 : Int32))] []))
         refine own_st (fun t_ => XS.iconst (own_here Y768) hx rfl (hb hby at_252) ) ?_
         show own_Ends _ _ _ _ (T767.setTop (mkF m 253 #[.val (.int x0), .val (.int x1), .val (.int x2), .val (.int x3), .val (.int t0), .val (.int t1), .val (.int t2), .val (.ref b667), .val (.ref r694), .val (.int m_), .val (.ref b706), .val (.int (1 : Int32))] [(.int (1 : Int32))]))
         refine own_st (fun t_ => XS.goto (own_here Y768) hx rfl (pc0 := 253) (pc' := 257) rfl (hb hby at_253) (by decide) (by decide)) ?_
         show own_Ends _ _ _ _ (T767.setTop (mkF m 257 #[.val (.int x0), .val (.int x1), .val (.int x2), .val (.int x3), .val (.int t0), .val (.int t1), .val (.int t2), .val (.ref b667), .val (.ref r694), .val (.int m_), .val (.ref b706), .val (.int (1 : Int32))] [(.int (1 : Int32))]))
         refine own_st (fun t_ => XS.istore (own_here Y768) hx rfl (hb hby at_257) rfl (l' := #[.val (.int x0), .val (.int x1), .val (.int x2), .val (.int x3), .val (.int t0), .val (.int t1), .val (.int t2), .val (.ref b667), .val (.ref r694), .val (.int m_), .val (.ref b706), .val (.int (1 : Int32))]) rfl) ?_
         show own_Ends _ _ _ _ (T767.setTop (mkF m 259 #[.val (.int x0), .val (.int x1), .val (.int x2), .val (.int x3), .val (.int t0), .val (.int t1), .val (.int t2), .val (.ref b667), .val (.ref r694), .val (.int m_), .val (.ref b706), .val (.int (1 : Int32))] []))
         refine own_st (fun t_ => XS.iload (own_here Y768) hx rfl (hb hby at_259) rfl) ?_
         show own_Ends _ _ _ _ (T767.setTop (mkF m 261 #[.val (.int x0), .val (.int x1), .val (.int x2), .val (.int x3), .val (.int t0), .val (.int t1), .val (.int t2), .val (.ref b667), .val (.ref r694), .val (.int m_), .val (.ref b706), .val (.int (1 : Int32))] [(.int (1 : Int32))]))
         refine own_retN Y768 hx hlk (t := .boolean) hret (by simp) (hb hby at_261) (by decide) (by decide) ?_
         exact rfl
      ·
       refine own_st (fun t_ => XS.icmpNo (own_here Y747) hx rfl (hb hby at_198) rfl (XT.ii_lt_f c198_753)) ?_
       show own_Ends _ _ _ _ (T746.setTop (mkF m 201 #[.val (.int x0), .val (.int x1), .val (.int x2), .val (.int x3), .val (.int t0), .val (.int t1), .val (.int t2), .val (.ref b667), .val (.ref r694), .val (.int m_), .val (.ref b706), .val (.int (1 : Int32))] []))
       have hk0 : 0 < es.length := by have := c198_753; rw [own_lt, hm_] at this; have e1 : (1 : Int32).toInt = 1 := rfl; omega
       refine own_st (fun t_ => XS.aload (own_here Y747) hx rfl (hb hby at_201) rfl rfl) ?_
       show own_Ends _ _ _ _ (T746.setTop (mkF m 203 #[.val (.int x0), .val (.int x1), .val (.int x2), .val (.int x3), .val (.int t0), .val (.int t1), .val (.int t2), .val (.ref b667), .val (.ref r694), .val (.int m_), .val (.ref b706), .val (.int (1 : Int32))] [(.ref r694)]))
       refine own_st (fun t_ => XS.iconst (own_here Y747) hx rfl (hb hby at_203) ) ?_
       show own_Ends _ _ _ _ (T746.setTop (mkF m 204 #[.val (.int x0), .val (.int x1), .val (.int x2), .val (.int x3), .val (.int t0), .val (.int t1), .val (.int t2), .val (.ref b667), .val (.ref r694), .val (.int m_), .val (.ref b706), .val (.int (1 : Int32))] [(.int (0 : Int32)), (.ref r694)]))
       refine own_callV Y747 hx hZ (y := (⟨"com/example/poset/poset/core/Marking", "markedPlace", "(I)I"⟩ : MethodName)) (z := (⟨"com/example/poset/poset/core/Marking", "markedPlace", "(I)I"⟩ : MethodName)) hown (hw _ (List.mem_of_getElem? (i := 67) rfl)) (hw _ (List.mem_of_getElem? (i := 68) rfl)) (notFace_of_selects (args := #[]) (mvT hZ (hw _ (List.mem_of_getElem? (i := 70) rfl)))) (hw _ (List.mem_of_getElem? (i := 70) rfl)) (hw _ (List.mem_of_getElem? (i := 69) rfl)) (hw _ (List.mem_of_getElem? (i := 4) rfl)) (hw _ (List.mem_of_getElem? (i := 71) rfl)) (by decide) (a := r694) f716 (argsL := [(.int (0 : Int32))]) (rest := []) (own_rm14 l Z a0 hw [] r694 (0 : Int32) ra es ml 0 h714 n0  f716 f717 f718 f719 f720 hml_ hm3 rfl (by omega)) (W := 0) (by decide) (by decide) (by decide) (by decide) rfl (by rw [hml]; rfl) (lenOf own_pd0 rfl) rfl (by show 2 * 0 + _ ≤ _; exact Nat.le_of_eq rfl) (hb hby at_204) (fun T772 h774 v775 Y773 q776 => ?_)
       obtain ⟨rfl, rfl⟩ := q776
       show own_Ends _ _ _ _ (T772.setTop (mkF m 207 #[.val (.int x0), .val (.int x1), .val (.int x2), .val (.int x3), .val (.int t0), .val (.int t1), .val (.int t2), .val (.ref b667), .val (.ref r694), .val (.int m_), .val (.ref b706), .val (.int (1 : Int32))] [(.int (own_pl (es.getD 0 0)))]))
       refine own_st (fun t_ => XS.aload (own_here Y773) hx rfl (hb hby at_207) rfl rfl) ?_
       show own_Ends _ _ _ _ (T772.setTop (mkF m 209 #[.val (.int x0), .val (.int x1), .val (.int x2), .val (.int x3), .val (.int t0), .val (.int t1), .val (.int t2), .val (.ref b667), .val (.ref r694), .val (.int m_), .val (.ref b706), .val (.int (1 : Int32))] [(.ref b706), (.int (own_pl (es.getD 0 0)))]))
       refine own_st (fun t_ => XS.iconst (own_here Y773) hx rfl (hb hby at_209) ) ?_
       show own_Ends _ _ _ _ (T772.setTop (mkF m 210 #[.val (.int x0), .val (.int x1), .val (.int x2), .val (.int x3), .val (.int t0), .val (.int t1), .val (.int t2), .val (.ref b667), .val (.ref r694), .val (.int m_), .val (.ref b706), .val (.int (1 : Int32))] [(.int (0 : Int32)), (.ref b706), (.int (own_pl (es.getD 0 0)))]))
       refine own_ldI Y773 hx hZ f721 (i := 0) (by decide) (by decide) (Nat.le_of_ble_eq_true rfl) (v := (.int e0)) rfl rfl rfl (hb hby at_210) ?_
       show own_Ends _ _ _ _ (T772.setTop (mkF m 211 #[.val (.int x0), .val (.int x1), .val (.int x2), .val (.int x3), .val (.int t0), .val (.int t1), .val (.int t2), .val (.ref b667), .val (.ref r694), .val (.int m_), .val (.ref b706), .val (.int (1 : Int32))] [(.int e0), (.int (own_pl (es.getD 0 0)))]))
       refine own_st (fun t_ => XS.icmpNo (own_here Y773) hx rfl (hb hby at_211) rfl (XT.ii_ne_f (hexp 0 hk0).symm)) ?_
       show own_Ends _ _ _ _ (T772.setTop (mkF m 214 #[.val (.int x0), .val (.int x1), .val (.int x2), .val (.int x3), .val (.int t0), .val (.int t1), .val (.int t2), .val (.ref b667), .val (.ref r694), .val (.int m_), .val (.ref b706), .val (.int (1 : Int32))] []))
       refine own_st (fun t_ => XS.iload (own_here Y773) hx rfl (hb hby at_214) rfl) ?_
       show own_Ends _ _ _ _ (T772.setTop (mkF m 216 #[.val (.int x0), .val (.int x1), .val (.int x2), .val (.int x3), .val (.int t0), .val (.int t1), .val (.int t2), .val (.ref b667), .val (.ref r694), .val (.int m_), .val (.ref b706), .val (.int (1 : Int32))] [(.int m_)]))
       refine own_st (fun t_ => XS.iconst (own_here Y773) hx rfl (hb hby at_216) ) ?_
       show own_Ends _ _ _ _ (T772.setTop (mkF m 217 #[.val (.int x0), .val (.int x1), .val (.int x2), .val (.int x3), .val (.int t0), .val (.int t1), .val (.int t2), .val (.ref b667), .val (.ref r694), .val (.int m_), .val (.ref b706), .val (.int (1 : Int32))] [(.int (2 : Int32)), (.int m_)]))
       by_cases c217_777 : m_ < (2 : Int32)
       ·
        refine own_st (fun t_ => XS.icmpYes (own_here Y773) hx rfl (pc0 := 217) (pc' := 233) rfl (hb hby at_217) rfl (XT.ii_lt_t c217_777) (by decide) (by decide)) ?_
        show own_Ends _ _ _ _ (T772.setTop (mkF m 233 #[.val (.int x0), .val (.int x1), .val (.int x2), .val (.int x3), .val (.int t0), .val (.int t1), .val (.int t2), .val (.ref b667), .val (.ref r694), .val (.int m_), .val (.ref b706), .val (.int (1 : Int32))] []))
        refine own_st (fun t_ => XS.iload (own_here Y773) hx rfl (hb hby at_233) rfl) ?_
        show own_Ends _ _ _ _ (T772.setTop (mkF m 235 #[.val (.int x0), .val (.int x1), .val (.int x2), .val (.int x3), .val (.int t0), .val (.int t1), .val (.int t2), .val (.ref b667), .val (.ref r694), .val (.int m_), .val (.ref b706), .val (.int (1 : Int32))] [(.int m_)]))
        refine own_st (fun t_ => XS.iconst (own_here Y773) hx rfl (hb hby at_235) ) ?_
        show own_Ends _ _ _ _ (T772.setTop (mkF m 236 #[.val (.int x0), .val (.int x1), .val (.int x2), .val (.int x3), .val (.int t0), .val (.int t1), .val (.int t2), .val (.ref b667), .val (.ref r694), .val (.int m_), .val (.ref b706), .val (.int (1 : Int32))] [(.int (3 : Int32)), (.int m_)]))
        by_cases c236_778 : m_ < (3 : Int32)
        ·
         refine own_st (fun t_ => XS.icmpYes (own_here Y773) hx rfl (pc0 := 236) (pc' := 252) rfl (hb hby at_236) rfl (XT.ii_lt_t c236_778) (by decide) (by decide)) ?_
         show own_Ends _ _ _ _ (T772.setTop (mkF m 252 #[.val (.int x0), .val (.int x1), .val (.int x2), .val (.int x3), .val (.int t0), .val (.int t1), .val (.int t2), .val (.ref b667), .val (.ref r694), .val (.int m_), .val (.ref b706), .val (.int (1 : Int32))] []))
         refine own_st (fun t_ => XS.iconst (own_here Y773) hx rfl (hb hby at_252) ) ?_
         show own_Ends _ _ _ _ (T772.setTop (mkF m 253 #[.val (.int x0), .val (.int x1), .val (.int x2), .val (.int x3), .val (.int t0), .val (.int t1), .val (.int t2), .val (.ref b667), .val (.ref r694), .val (.int m_), .val (.ref b706), .val (.int (1 : Int32))] [(.int (1 : Int32))]))
         refine own_st (fun t_ => XS.goto (own_here Y773) hx rfl (pc0 := 253) (pc' := 257) rfl (hb hby at_253) (by decide) (by decide)) ?_
         show own_Ends _ _ _ _ (T772.setTop (mkF m 257 #[.val (.int x0), .val (.int x1), .val (.int x2), .val (.int x3), .val (.int t0), .val (.int t1), .val (.int t2), .val (.ref b667), .val (.ref r694), .val (.int m_), .val (.ref b706), .val (.int (1 : Int32))] [(.int (1 : Int32))]))
         refine own_st (fun t_ => XS.istore (own_here Y773) hx rfl (hb hby at_257) rfl (l' := #[.val (.int x0), .val (.int x1), .val (.int x2), .val (.int x3), .val (.int t0), .val (.int t1), .val (.int t2), .val (.ref b667), .val (.ref r694), .val (.int m_), .val (.ref b706), .val (.int (1 : Int32))]) rfl) ?_
         show own_Ends _ _ _ _ (T772.setTop (mkF m 259 #[.val (.int x0), .val (.int x1), .val (.int x2), .val (.int x3), .val (.int t0), .val (.int t1), .val (.int t2), .val (.ref b667), .val (.ref r694), .val (.int m_), .val (.ref b706), .val (.int (1 : Int32))] []))
         refine own_st (fun t_ => XS.iload (own_here Y773) hx rfl (hb hby at_259) rfl) ?_
         show own_Ends _ _ _ _ (T772.setTop (mkF m 261 #[.val (.int x0), .val (.int x1), .val (.int x2), .val (.int x3), .val (.int t0), .val (.int t1), .val (.int t2), .val (.ref b667), .val (.ref r694), .val (.int m_), .val (.ref b706), .val (.int (1 : Int32))] [(.int (1 : Int32))]))
         refine own_retN Y773 hx hlk (t := .boolean) hret (by simp) (hb hby at_261) (by decide) (by decide) ?_
         exact rfl
        ·
         refine own_st (fun t_ => XS.icmpNo (own_here Y773) hx rfl (hb hby at_236) rfl (XT.ii_lt_f c236_778)) ?_
         show own_Ends _ _ _ _ (T772.setTop (mkF m 239 #[.val (.int x0), .val (.int x1), .val (.int x2), .val (.int x3), .val (.int t0), .val (.int t1), .val (.int t2), .val (.ref b667), .val (.ref r694), .val (.int m_), .val (.ref b706), .val (.int (1 : Int32))] []))
         have hk2 : 2 < es.length := by have := c236_778; rw [own_lt, hm_] at this; have e1 : (3 : Int32).toInt = 3 := rfl; omega
         refine own_st (fun t_ => XS.aload (own_here Y773) hx rfl (hb hby at_239) rfl rfl) ?_
         show own_Ends _ _ _ _ (T772.setTop (mkF m 241 #[.val (.int x0), .val (.int x1), .val (.int x2), .val (.int x3), .val (.int t0), .val (.int t1), .val (.int t2), .val (.ref b667), .val (.ref r694), .val (.int m_), .val (.ref b706), .val (.int (1 : Int32))] [(.ref r694)]))
         refine own_st (fun t_ => XS.iconst (own_here Y773) hx rfl (hb hby at_241) ) ?_
         show own_Ends _ _ _ _ (T772.setTop (mkF m 242 #[.val (.int x0), .val (.int x1), .val (.int x2), .val (.int x3), .val (.int t0), .val (.int t1), .val (.int t2), .val (.ref b667), .val (.ref r694), .val (.int m_), .val (.ref b706), .val (.int (1 : Int32))] [(.int (2 : Int32)), (.ref r694)]))
         refine own_callV Y773 hx hZ (y := (⟨"com/example/poset/poset/core/Marking", "markedPlace", "(I)I"⟩ : MethodName)) (z := (⟨"com/example/poset/poset/core/Marking", "markedPlace", "(I)I"⟩ : MethodName)) hown (hw _ (List.mem_of_getElem? (i := 67) rfl)) (hw _ (List.mem_of_getElem? (i := 68) rfl)) (notFace_of_selects (args := #[]) (mvT hZ (hw _ (List.mem_of_getElem? (i := 70) rfl)))) (hw _ (List.mem_of_getElem? (i := 70) rfl)) (hw _ (List.mem_of_getElem? (i := 69) rfl)) (hw _ (List.mem_of_getElem? (i := 4) rfl)) (hw _ (List.mem_of_getElem? (i := 71) rfl)) (by decide) (a := r694) f716 (argsL := [(.int (2 : Int32))]) (rest := []) (own_rm14 l Z a0 hw [] r694 (2 : Int32) ra es ml 2 h714 n0  f716 f717 f718 f719 f720 hml_ hm3 rfl (by omega)) (W := 0) (by decide) (by decide) (by decide) (by decide) rfl (by rw [hml]; rfl) (lenOf own_pd0 rfl) rfl (by show 2 * 0 + _ ≤ _; exact Nat.le_of_eq rfl) (hb hby at_242) (fun T779 h781 v782 Y780 q783 => ?_)
         obtain ⟨rfl, rfl⟩ := q783
         show own_Ends _ _ _ _ (T779.setTop (mkF m 245 #[.val (.int x0), .val (.int x1), .val (.int x2), .val (.int x3), .val (.int t0), .val (.int t1), .val (.int t2), .val (.ref b667), .val (.ref r694), .val (.int m_), .val (.ref b706), .val (.int (1 : Int32))] [(.int (own_pl (es.getD 2 0)))]))
         refine own_st (fun t_ => XS.aload (own_here Y780) hx rfl (hb hby at_245) rfl rfl) ?_
         show own_Ends _ _ _ _ (T779.setTop (mkF m 247 #[.val (.int x0), .val (.int x1), .val (.int x2), .val (.int x3), .val (.int t0), .val (.int t1), .val (.int t2), .val (.ref b667), .val (.ref r694), .val (.int m_), .val (.ref b706), .val (.int (1 : Int32))] [(.ref b706), (.int (own_pl (es.getD 2 0)))]))
         refine own_st (fun t_ => XS.iconst (own_here Y780) hx rfl (hb hby at_247) ) ?_
         show own_Ends _ _ _ _ (T779.setTop (mkF m 248 #[.val (.int x0), .val (.int x1), .val (.int x2), .val (.int x3), .val (.int t0), .val (.int t1), .val (.int t2), .val (.ref b667), .val (.ref r694), .val (.int m_), .val (.ref b706), .val (.int (1 : Int32))] [(.int (2 : Int32)), (.ref b706), (.int (own_pl (es.getD 2 0)))]))
         refine own_ldI Y780 hx hZ f721 (i := 2) (by decide) (by decide) (Nat.le_of_ble_eq_true rfl) (v := (.int e2)) rfl rfl rfl (hb hby at_248) ?_
         show own_Ends _ _ _ _ (T779.setTop (mkF m 249 #[.val (.int x0), .val (.int x1), .val (.int x2), .val (.int x3), .val (.int t0), .val (.int t1), .val (.int t2), .val (.ref b667), .val (.ref r694), .val (.int m_), .val (.ref b706), .val (.int (1 : Int32))] [(.int e2), (.int (own_pl (es.getD 2 0)))]))
         refine own_st (fun t_ => XS.icmpNo (own_here Y780) hx rfl (hb hby at_249) rfl (XT.ii_ne_f (hexp 2 hk2).symm)) ?_
         show own_Ends _ _ _ _ (T779.setTop (mkF m 252 #[.val (.int x0), .val (.int x1), .val (.int x2), .val (.int x3), .val (.int t0), .val (.int t1), .val (.int t2), .val (.ref b667), .val (.ref r694), .val (.int m_), .val (.ref b706), .val (.int (1 : Int32))] []))
         refine own_st (fun t_ => XS.iconst (own_here Y780) hx rfl (hb hby at_252) ) ?_
         show own_Ends _ _ _ _ (T779.setTop (mkF m 253 #[.val (.int x0), .val (.int x1), .val (.int x2), .val (.int x3), .val (.int t0), .val (.int t1), .val (.int t2), .val (.ref b667), .val (.ref r694), .val (.int m_), .val (.ref b706), .val (.int (1 : Int32))] [(.int (1 : Int32))]))
         refine own_st (fun t_ => XS.goto (own_here Y780) hx rfl (pc0 := 253) (pc' := 257) rfl (hb hby at_253) (by decide) (by decide)) ?_
         show own_Ends _ _ _ _ (T779.setTop (mkF m 257 #[.val (.int x0), .val (.int x1), .val (.int x2), .val (.int x3), .val (.int t0), .val (.int t1), .val (.int t2), .val (.ref b667), .val (.ref r694), .val (.int m_), .val (.ref b706), .val (.int (1 : Int32))] [(.int (1 : Int32))]))
         refine own_st (fun t_ => XS.istore (own_here Y780) hx rfl (hb hby at_257) rfl (l' := #[.val (.int x0), .val (.int x1), .val (.int x2), .val (.int x3), .val (.int t0), .val (.int t1), .val (.int t2), .val (.ref b667), .val (.ref r694), .val (.int m_), .val (.ref b706), .val (.int (1 : Int32))]) rfl) ?_
         show own_Ends _ _ _ _ (T779.setTop (mkF m 259 #[.val (.int x0), .val (.int x1), .val (.int x2), .val (.int x3), .val (.int t0), .val (.int t1), .val (.int t2), .val (.ref b667), .val (.ref r694), .val (.int m_), .val (.ref b706), .val (.int (1 : Int32))] []))
         refine own_st (fun t_ => XS.iload (own_here Y780) hx rfl (hb hby at_259) rfl) ?_
         show own_Ends _ _ _ _ (T779.setTop (mkF m 261 #[.val (.int x0), .val (.int x1), .val (.int x2), .val (.int x3), .val (.int t0), .val (.int t1), .val (.int t2), .val (.ref b667), .val (.ref r694), .val (.int m_), .val (.ref b706), .val (.int (1 : Int32))] [(.int (1 : Int32))]))
         refine own_retN Y780 hx hlk (t := .boolean) hret (by simp) (hb hby at_261) (by decide) (by decide) ?_
         exact rfl
       ·
        refine own_st (fun t_ => XS.icmpNo (own_here Y773) hx rfl (hb hby at_217) rfl (XT.ii_lt_f c217_777)) ?_
        show own_Ends _ _ _ _ (T772.setTop (mkF m 220 #[.val (.int x0), .val (.int x1), .val (.int x2), .val (.int x3), .val (.int t0), .val (.int t1), .val (.int t2), .val (.ref b667), .val (.ref r694), .val (.int m_), .val (.ref b706), .val (.int (1 : Int32))] []))
        have hk1 : 1 < es.length := by have := c217_777; rw [own_lt, hm_] at this; have e1 : (2 : Int32).toInt = 2 := rfl; omega
        refine own_st (fun t_ => XS.aload (own_here Y773) hx rfl (hb hby at_220) rfl rfl) ?_
        show own_Ends _ _ _ _ (T772.setTop (mkF m 222 #[.val (.int x0), .val (.int x1), .val (.int x2), .val (.int x3), .val (.int t0), .val (.int t1), .val (.int t2), .val (.ref b667), .val (.ref r694), .val (.int m_), .val (.ref b706), .val (.int (1 : Int32))] [(.ref r694)]))
        refine own_st (fun t_ => XS.iconst (own_here Y773) hx rfl (hb hby at_222) ) ?_
        show own_Ends _ _ _ _ (T772.setTop (mkF m 223 #[.val (.int x0), .val (.int x1), .val (.int x2), .val (.int x3), .val (.int t0), .val (.int t1), .val (.int t2), .val (.ref b667), .val (.ref r694), .val (.int m_), .val (.ref b706), .val (.int (1 : Int32))] [(.int (1 : Int32)), (.ref r694)]))
        refine own_callV Y773 hx hZ (y := (⟨"com/example/poset/poset/core/Marking", "markedPlace", "(I)I"⟩ : MethodName)) (z := (⟨"com/example/poset/poset/core/Marking", "markedPlace", "(I)I"⟩ : MethodName)) hown (hw _ (List.mem_of_getElem? (i := 67) rfl)) (hw _ (List.mem_of_getElem? (i := 68) rfl)) (notFace_of_selects (args := #[]) (mvT hZ (hw _ (List.mem_of_getElem? (i := 70) rfl)))) (hw _ (List.mem_of_getElem? (i := 70) rfl)) (hw _ (List.mem_of_getElem? (i := 69) rfl)) (hw _ (List.mem_of_getElem? (i := 4) rfl)) (hw _ (List.mem_of_getElem? (i := 71) rfl)) (by decide) (a := r694) f716 (argsL := [(.int (1 : Int32))]) (rest := []) (own_rm14 l Z a0 hw [] r694 (1 : Int32) ra es ml 1 h714 n0  f716 f717 f718 f719 f720 hml_ hm3 rfl (by omega)) (W := 0) (by decide) (by decide) (by decide) (by decide) rfl (by rw [hml]; rfl) (lenOf own_pd0 rfl) rfl (by show 2 * 0 + _ ≤ _; exact Nat.le_of_eq rfl) (hb hby at_223) (fun T784 h786 v787 Y785 q788 => ?_)
        obtain ⟨rfl, rfl⟩ := q788
        show own_Ends _ _ _ _ (T784.setTop (mkF m 226 #[.val (.int x0), .val (.int x1), .val (.int x2), .val (.int x3), .val (.int t0), .val (.int t1), .val (.int t2), .val (.ref b667), .val (.ref r694), .val (.int m_), .val (.ref b706), .val (.int (1 : Int32))] [(.int (own_pl (es.getD 1 0)))]))
        refine own_st (fun t_ => XS.aload (own_here Y785) hx rfl (hb hby at_226) rfl rfl) ?_
        show own_Ends _ _ _ _ (T784.setTop (mkF m 228 #[.val (.int x0), .val (.int x1), .val (.int x2), .val (.int x3), .val (.int t0), .val (.int t1), .val (.int t2), .val (.ref b667), .val (.ref r694), .val (.int m_), .val (.ref b706), .val (.int (1 : Int32))] [(.ref b706), (.int (own_pl (es.getD 1 0)))]))
        refine own_st (fun t_ => XS.iconst (own_here Y785) hx rfl (hb hby at_228) ) ?_
        show own_Ends _ _ _ _ (T784.setTop (mkF m 229 #[.val (.int x0), .val (.int x1), .val (.int x2), .val (.int x3), .val (.int t0), .val (.int t1), .val (.int t2), .val (.ref b667), .val (.ref r694), .val (.int m_), .val (.ref b706), .val (.int (1 : Int32))] [(.int (1 : Int32)), (.ref b706), (.int (own_pl (es.getD 1 0)))]))
        refine own_ldI Y785 hx hZ f721 (i := 1) (by decide) (by decide) (Nat.le_of_ble_eq_true rfl) (v := (.int e1)) rfl rfl rfl (hb hby at_229) ?_
        show own_Ends _ _ _ _ (T784.setTop (mkF m 230 #[.val (.int x0), .val (.int x1), .val (.int x2), .val (.int x3), .val (.int t0), .val (.int t1), .val (.int t2), .val (.ref b667), .val (.ref r694), .val (.int m_), .val (.ref b706), .val (.int (1 : Int32))] [(.int e1), (.int (own_pl (es.getD 1 0)))]))
        refine own_st (fun t_ => XS.icmpNo (own_here Y785) hx rfl (hb hby at_230) rfl (XT.ii_ne_f (hexp 1 hk1).symm)) ?_
        show own_Ends _ _ _ _ (T784.setTop (mkF m 233 #[.val (.int x0), .val (.int x1), .val (.int x2), .val (.int x3), .val (.int t0), .val (.int t1), .val (.int t2), .val (.ref b667), .val (.ref r694), .val (.int m_), .val (.ref b706), .val (.int (1 : Int32))] []))
        refine own_st (fun t_ => XS.iload (own_here Y785) hx rfl (hb hby at_233) rfl) ?_
        show own_Ends _ _ _ _ (T784.setTop (mkF m 235 #[.val (.int x0), .val (.int x1), .val (.int x2), .val (.int x3), .val (.int t0), .val (.int t1), .val (.int t2), .val (.ref b667), .val (.ref r694), .val (.int m_), .val (.ref b706), .val (.int (1 : Int32))] [(.int m_)]))
        refine own_st (fun t_ => XS.iconst (own_here Y785) hx rfl (hb hby at_235) ) ?_
        show own_Ends _ _ _ _ (T784.setTop (mkF m 236 #[.val (.int x0), .val (.int x1), .val (.int x2), .val (.int x3), .val (.int t0), .val (.int t1), .val (.int t2), .val (.ref b667), .val (.ref r694), .val (.int m_), .val (.ref b706), .val (.int (1 : Int32))] [(.int (3 : Int32)), (.int m_)]))
        by_cases c236_789 : m_ < (3 : Int32)
        ·
         refine own_st (fun t_ => XS.icmpYes (own_here Y785) hx rfl (pc0 := 236) (pc' := 252) rfl (hb hby at_236) rfl (XT.ii_lt_t c236_789) (by decide) (by decide)) ?_
         show own_Ends _ _ _ _ (T784.setTop (mkF m 252 #[.val (.int x0), .val (.int x1), .val (.int x2), .val (.int x3), .val (.int t0), .val (.int t1), .val (.int t2), .val (.ref b667), .val (.ref r694), .val (.int m_), .val (.ref b706), .val (.int (1 : Int32))] []))
         refine own_st (fun t_ => XS.iconst (own_here Y785) hx rfl (hb hby at_252) ) ?_
         show own_Ends _ _ _ _ (T784.setTop (mkF m 253 #[.val (.int x0), .val (.int x1), .val (.int x2), .val (.int x3), .val (.int t0), .val (.int t1), .val (.int t2), .val (.ref b667), .val (.ref r694), .val (.int m_), .val (.ref b706), .val (.int (1 : Int32))] [(.int (1 : Int32))]))
         refine own_st (fun t_ => XS.goto (own_here Y785) hx rfl (pc0 := 253) (pc' := 257) rfl (hb hby at_253) (by decide) (by decide)) ?_
         show own_Ends _ _ _ _ (T784.setTop (mkF m 257 #[.val (.int x0), .val (.int x1), .val (.int x2), .val (.int x3), .val (.int t0), .val (.int t1), .val (.int t2), .val (.ref b667), .val (.ref r694), .val (.int m_), .val (.ref b706), .val (.int (1 : Int32))] [(.int (1 : Int32))]))
         refine own_st (fun t_ => XS.istore (own_here Y785) hx rfl (hb hby at_257) rfl (l' := #[.val (.int x0), .val (.int x1), .val (.int x2), .val (.int x3), .val (.int t0), .val (.int t1), .val (.int t2), .val (.ref b667), .val (.ref r694), .val (.int m_), .val (.ref b706), .val (.int (1 : Int32))]) rfl) ?_
         show own_Ends _ _ _ _ (T784.setTop (mkF m 259 #[.val (.int x0), .val (.int x1), .val (.int x2), .val (.int x3), .val (.int t0), .val (.int t1), .val (.int t2), .val (.ref b667), .val (.ref r694), .val (.int m_), .val (.ref b706), .val (.int (1 : Int32))] []))
         refine own_st (fun t_ => XS.iload (own_here Y785) hx rfl (hb hby at_259) rfl) ?_
         show own_Ends _ _ _ _ (T784.setTop (mkF m 261 #[.val (.int x0), .val (.int x1), .val (.int x2), .val (.int x3), .val (.int t0), .val (.int t1), .val (.int t2), .val (.ref b667), .val (.ref r694), .val (.int m_), .val (.ref b706), .val (.int (1 : Int32))] [(.int (1 : Int32))]))
         refine own_retN Y785 hx hlk (t := .boolean) hret (by simp) (hb hby at_261) (by decide) (by decide) ?_
         exact rfl
        ·
         refine own_st (fun t_ => XS.icmpNo (own_here Y785) hx rfl (hb hby at_236) rfl (XT.ii_lt_f c236_789)) ?_
         show own_Ends _ _ _ _ (T784.setTop (mkF m 239 #[.val (.int x0), .val (.int x1), .val (.int x2), .val (.int x3), .val (.int t0), .val (.int t1), .val (.int t2), .val (.ref b667), .val (.ref r694), .val (.int m_), .val (.ref b706), .val (.int (1 : Int32))] []))
         have hk2 : 2 < es.length := by have := c236_789; rw [own_lt, hm_] at this; have e1 : (3 : Int32).toInt = 3 := rfl; omega
         refine own_st (fun t_ => XS.aload (own_here Y785) hx rfl (hb hby at_239) rfl rfl) ?_
         show own_Ends _ _ _ _ (T784.setTop (mkF m 241 #[.val (.int x0), .val (.int x1), .val (.int x2), .val (.int x3), .val (.int t0), .val (.int t1), .val (.int t2), .val (.ref b667), .val (.ref r694), .val (.int m_), .val (.ref b706), .val (.int (1 : Int32))] [(.ref r694)]))
         refine own_st (fun t_ => XS.iconst (own_here Y785) hx rfl (hb hby at_241) ) ?_
         show own_Ends _ _ _ _ (T784.setTop (mkF m 242 #[.val (.int x0), .val (.int x1), .val (.int x2), .val (.int x3), .val (.int t0), .val (.int t1), .val (.int t2), .val (.ref b667), .val (.ref r694), .val (.int m_), .val (.ref b706), .val (.int (1 : Int32))] [(.int (2 : Int32)), (.ref r694)]))
         refine own_callV Y785 hx hZ (y := (⟨"com/example/poset/poset/core/Marking", "markedPlace", "(I)I"⟩ : MethodName)) (z := (⟨"com/example/poset/poset/core/Marking", "markedPlace", "(I)I"⟩ : MethodName)) hown (hw _ (List.mem_of_getElem? (i := 67) rfl)) (hw _ (List.mem_of_getElem? (i := 68) rfl)) (notFace_of_selects (args := #[]) (mvT hZ (hw _ (List.mem_of_getElem? (i := 70) rfl)))) (hw _ (List.mem_of_getElem? (i := 70) rfl)) (hw _ (List.mem_of_getElem? (i := 69) rfl)) (hw _ (List.mem_of_getElem? (i := 4) rfl)) (hw _ (List.mem_of_getElem? (i := 71) rfl)) (by decide) (a := r694) f716 (argsL := [(.int (2 : Int32))]) (rest := []) (own_rm14 l Z a0 hw [] r694 (2 : Int32) ra es ml 2 h714 n0  f716 f717 f718 f719 f720 hml_ hm3 rfl (by omega)) (W := 0) (by decide) (by decide) (by decide) (by decide) rfl (by rw [hml]; rfl) (lenOf own_pd0 rfl) rfl (by show 2 * 0 + _ ≤ _; exact Nat.le_of_eq rfl) (hb hby at_242) (fun T790 h792 v793 Y791 q794 => ?_)
         obtain ⟨rfl, rfl⟩ := q794
         show own_Ends _ _ _ _ (T790.setTop (mkF m 245 #[.val (.int x0), .val (.int x1), .val (.int x2), .val (.int x3), .val (.int t0), .val (.int t1), .val (.int t2), .val (.ref b667), .val (.ref r694), .val (.int m_), .val (.ref b706), .val (.int (1 : Int32))] [(.int (own_pl (es.getD 2 0)))]))
         refine own_st (fun t_ => XS.aload (own_here Y791) hx rfl (hb hby at_245) rfl rfl) ?_
         show own_Ends _ _ _ _ (T790.setTop (mkF m 247 #[.val (.int x0), .val (.int x1), .val (.int x2), .val (.int x3), .val (.int t0), .val (.int t1), .val (.int t2), .val (.ref b667), .val (.ref r694), .val (.int m_), .val (.ref b706), .val (.int (1 : Int32))] [(.ref b706), (.int (own_pl (es.getD 2 0)))]))
         refine own_st (fun t_ => XS.iconst (own_here Y791) hx rfl (hb hby at_247) ) ?_
         show own_Ends _ _ _ _ (T790.setTop (mkF m 248 #[.val (.int x0), .val (.int x1), .val (.int x2), .val (.int x3), .val (.int t0), .val (.int t1), .val (.int t2), .val (.ref b667), .val (.ref r694), .val (.int m_), .val (.ref b706), .val (.int (1 : Int32))] [(.int (2 : Int32)), (.ref b706), (.int (own_pl (es.getD 2 0)))]))
         refine own_ldI Y791 hx hZ f721 (i := 2) (by decide) (by decide) (Nat.le_of_ble_eq_true rfl) (v := (.int e2)) rfl rfl rfl (hb hby at_248) ?_
         show own_Ends _ _ _ _ (T790.setTop (mkF m 249 #[.val (.int x0), .val (.int x1), .val (.int x2), .val (.int x3), .val (.int t0), .val (.int t1), .val (.int t2), .val (.ref b667), .val (.ref r694), .val (.int m_), .val (.ref b706), .val (.int (1 : Int32))] [(.int e2), (.int (own_pl (es.getD 2 0)))]))
         refine own_st (fun t_ => XS.icmpNo (own_here Y791) hx rfl (hb hby at_249) rfl (XT.ii_ne_f (hexp 2 hk2).symm)) ?_
         show own_Ends _ _ _ _ (T790.setTop (mkF m 252 #[.val (.int x0), .val (.int x1), .val (.int x2), .val (.int x3), .val (.int t0), .val (.int t1), .val (.int t2), .val (.ref b667), .val (.ref r694), .val (.int m_), .val (.ref b706), .val (.int (1 : Int32))] []))
         refine own_st (fun t_ => XS.iconst (own_here Y791) hx rfl (hb hby at_252) ) ?_
         show own_Ends _ _ _ _ (T790.setTop (mkF m 253 #[.val (.int x0), .val (.int x1), .val (.int x2), .val (.int x3), .val (.int t0), .val (.int t1), .val (.int t2), .val (.ref b667), .val (.ref r694), .val (.int m_), .val (.ref b706), .val (.int (1 : Int32))] [(.int (1 : Int32))]))
         refine own_st (fun t_ => XS.goto (own_here Y791) hx rfl (pc0 := 253) (pc' := 257) rfl (hb hby at_253) (by decide) (by decide)) ?_
         show own_Ends _ _ _ _ (T790.setTop (mkF m 257 #[.val (.int x0), .val (.int x1), .val (.int x2), .val (.int x3), .val (.int t0), .val (.int t1), .val (.int t2), .val (.ref b667), .val (.ref r694), .val (.int m_), .val (.ref b706), .val (.int (1 : Int32))] [(.int (1 : Int32))]))
         refine own_st (fun t_ => XS.istore (own_here Y791) hx rfl (hb hby at_257) rfl (l' := #[.val (.int x0), .val (.int x1), .val (.int x2), .val (.int x3), .val (.int t0), .val (.int t1), .val (.int t2), .val (.ref b667), .val (.ref r694), .val (.int m_), .val (.ref b706), .val (.int (1 : Int32))]) rfl) ?_
         show own_Ends _ _ _ _ (T790.setTop (mkF m 259 #[.val (.int x0), .val (.int x1), .val (.int x2), .val (.int x3), .val (.int t0), .val (.int t1), .val (.int t2), .val (.ref b667), .val (.ref r694), .val (.int m_), .val (.ref b706), .val (.int (1 : Int32))] []))
         refine own_st (fun t_ => XS.iload (own_here Y791) hx rfl (hb hby at_259) rfl) ?_
         show own_Ends _ _ _ _ (T790.setTop (mkF m 261 #[.val (.int x0), .val (.int x1), .val (.int x2), .val (.int x3), .val (.int t0), .val (.int t1), .val (.int t2), .val (.ref b667), .val (.ref r694), .val (.int m_), .val (.ref b706), .val (.int (1 : Int32))] [(.int (1 : Int32))]))
         refine own_retN Y791 hx hlk (t := .boolean) hret (by simp) (hb hby at_261) (by decide) (by decide) ?_
         exact rfl
     refine own_st (fun t_ => XS.iload (own_here Y702) hx rfl (hb hby at_83) rfl) ?_
     show own_Ends _ _ _ _ (T701.setTop (mkF m 85 #[.val (.int x0), .val (.int x1), .val (.int x2), .val (.int x3), .val (.int t0), .val (.int t1), .val (.int t2), .val (.ref b667), .val (.ref r694), .val (.int (0 : Int32)), .val (.ref b706), .unset] [(.int t0)]))
     by_cases c85_795 : (0 : Int32) < t0
     ·
      refine own_st (fun t_ => XS.ifNo (own_here Y702) hx rfl (hb hby at_85) rfl (XT.i0_le_f c85_795)) ?_
      show own_Ends _ _ _ _ (T701.setTop (mkF m 88 #[.val (.int x0), .val (.int x1), .val (.int x2), .val (.int x3), .val (.int t0), .val (.int t1), .val (.int t2), .val (.ref b667), .val (.ref r694), .val (.int (0 : Int32)), .val (.ref b706), .unset] []))
      refine own_st (fun t_ => XS.aload (own_here Y702) hx rfl (hb hby at_88) rfl rfl) ?_
      show own_Ends _ _ _ _ (T701.setTop (mkF m 90 #[.val (.int x0), .val (.int x1), .val (.int x2), .val (.int x3), .val (.int t0), .val (.int t1), .val (.int t2), .val (.ref b667), .val (.ref r694), .val (.int (0 : Int32)), .val (.ref b706), .unset] [(.ref b706)]))
      refine own_st (fun t_ => XS.iload (own_here Y702) hx rfl (hb hby at_90) rfl) ?_
      show own_Ends _ _ _ _ (T701.setTop (mkF m 92 #[.val (.int x0), .val (.int x1), .val (.int x2), .val (.int x3), .val (.int t0), .val (.int t1), .val (.int t2), .val (.ref b667), .val (.ref r694), .val (.int (0 : Int32)), .val (.ref b706), .unset] [(.int (0 : Int32)), (.ref b706)]))
      refine own_st (fun t_ => XS.iconst (own_here Y702) hx rfl (hb hby at_92) ) ?_
      show own_Ends _ _ _ _ (T701.setTop (mkF m 93 #[.val (.int x0), .val (.int x1), .val (.int x2), .val (.int x3), .val (.int t0), .val (.int t1), .val (.int t2), .val (.ref b667), .val (.ref r694), .val (.int (0 : Int32)), .val (.ref b706), .unset] [(.int (0 : Int32)), (.int (0 : Int32)), (.ref b706)]))
      refine own_stI Y702 hx hZ A705 g710 (i := 0) (by decide) (by decide) (Nat.le_of_ble_eq_true rfl) rfl rfl (hb hby at_93) (fun T796 h798 Y797 W799 A800 => ?_)
      replace A800 : own_A Z h798 b706 .int [(.int (0 : Int32)), (.int (0 : Int32)), (.int (0 : Int32))] := A800
      show own_Ends _ _ _ _ (T796.setTop (mkF m 94 #[.val (.int x0), .val (.int x1), .val (.int x2), .val (.int x3), .val (.int t0), .val (.int t1), .val (.int t2), .val (.ref b667), .val (.ref r694), .val (.int (0 : Int32)), .val (.ref b706), .unset] []))
      refine own_st (fun t_ => XS.iinc (own_here Y797) hx rfl (hb hby at_94) rfl (l' := #[.val (.int x0), .val (.int x1), .val (.int x2), .val (.int x3), .val (.int t0), .val (.int t1), .val (.int t2), .val (.ref b667), .val (.ref r694), .val (.int (1 : Int32)), .val (.ref b706), .unset]) rfl) ?_
      show own_Ends _ _ _ _ (T796.setTop (mkF m 97 #[.val (.int x0), .val (.int x1), .val (.int x2), .val (.int x3), .val (.int t0), .val (.int t1), .val (.int t2), .val (.ref b667), .val (.ref r694), .val (.int (1 : Int32)), .val (.ref b706), .unset] []))
      refine own_st (fun t_ => XS.iload (own_here Y797) hx rfl (hb hby at_97) rfl) ?_
      show own_Ends _ _ _ _ (T796.setTop (mkF m 99 #[.val (.int x0), .val (.int x1), .val (.int x2), .val (.int x3), .val (.int t0), .val (.int t1), .val (.int t2), .val (.ref b667), .val (.ref r694), .val (.int (1 : Int32)), .val (.ref b706), .unset] [(.int t1)]))
      by_cases c99_801 : (0 : Int32) < t1
      ·
       refine own_st (fun t_ => XS.ifNo (own_here Y797) hx rfl (hb hby at_99) rfl (XT.i0_le_f c99_801)) ?_
       show own_Ends _ _ _ _ (T796.setTop (mkF m 102 #[.val (.int x0), .val (.int x1), .val (.int x2), .val (.int x3), .val (.int t0), .val (.int t1), .val (.int t2), .val (.ref b667), .val (.ref r694), .val (.int (1 : Int32)), .val (.ref b706), .unset] []))
       refine own_st (fun t_ => XS.aload (own_here Y797) hx rfl (hb hby at_102) rfl rfl) ?_
       show own_Ends _ _ _ _ (T796.setTop (mkF m 104 #[.val (.int x0), .val (.int x1), .val (.int x2), .val (.int x3), .val (.int t0), .val (.int t1), .val (.int t2), .val (.ref b667), .val (.ref r694), .val (.int (1 : Int32)), .val (.ref b706), .unset] [(.ref b706)]))
       refine own_st (fun t_ => XS.iload (own_here Y797) hx rfl (hb hby at_104) rfl) ?_
       show own_Ends _ _ _ _ (T796.setTop (mkF m 106 #[.val (.int x0), .val (.int x1), .val (.int x2), .val (.int x3), .val (.int t0), .val (.int t1), .val (.int t2), .val (.ref b667), .val (.ref r694), .val (.int (1 : Int32)), .val (.ref b706), .unset] [(.int (1 : Int32)), (.ref b706)]))
       refine own_st (fun t_ => XS.iconst (own_here Y797) hx rfl (hb hby at_106) ) ?_
       show own_Ends _ _ _ _ (T796.setTop (mkF m 107 #[.val (.int x0), .val (.int x1), .val (.int x2), .val (.int x3), .val (.int t0), .val (.int t1), .val (.int t2), .val (.ref b667), .val (.ref r694), .val (.int (1 : Int32)), .val (.ref b706), .unset] [(.int (1 : Int32)), (.int (1 : Int32)), (.ref b706)]))
       refine own_stI Y797 hx hZ A800 g710 (i := 1) (by decide) (by decide) (Nat.le_of_ble_eq_true rfl) rfl rfl (hb hby at_107) (fun T802 h804 Y803 W805 A806 => ?_)
       replace A806 : own_A Z h804 b706 .int [(.int (0 : Int32)), (.int (1 : Int32)), (.int (0 : Int32))] := A806
       show own_Ends _ _ _ _ (T802.setTop (mkF m 108 #[.val (.int x0), .val (.int x1), .val (.int x2), .val (.int x3), .val (.int t0), .val (.int t1), .val (.int t2), .val (.ref b667), .val (.ref r694), .val (.int (1 : Int32)), .val (.ref b706), .unset] []))
       refine own_st (fun t_ => XS.iinc (own_here Y803) hx rfl (hb hby at_108) rfl (l' := #[.val (.int x0), .val (.int x1), .val (.int x2), .val (.int x3), .val (.int t0), .val (.int t1), .val (.int t2), .val (.ref b667), .val (.ref r694), .val (.int (2 : Int32)), .val (.ref b706), .unset]) rfl) ?_
       show own_Ends _ _ _ _ (T802.setTop (mkF m 111 #[.val (.int x0), .val (.int x1), .val (.int x2), .val (.int x3), .val (.int t0), .val (.int t1), .val (.int t2), .val (.ref b667), .val (.ref r694), .val (.int (2 : Int32)), .val (.ref b706), .unset] []))
       refine own_st (fun t_ => XS.iload (own_here Y803) hx rfl (hb hby at_111) rfl) ?_
       show own_Ends _ _ _ _ (T802.setTop (mkF m 113 #[.val (.int x0), .val (.int x1), .val (.int x2), .val (.int x3), .val (.int t0), .val (.int t1), .val (.int t2), .val (.ref b667), .val (.ref r694), .val (.int (2 : Int32)), .val (.ref b706), .unset] [(.int t2)]))
       by_cases c113_807 : (0 : Int32) < t2
       ·
        refine own_st (fun t_ => XS.ifNo (own_here Y803) hx rfl (hb hby at_113) rfl (XT.i0_le_f c113_807)) ?_
        show own_Ends _ _ _ _ (T802.setTop (mkF m 116 #[.val (.int x0), .val (.int x1), .val (.int x2), .val (.int x3), .val (.int t0), .val (.int t1), .val (.int t2), .val (.ref b667), .val (.ref r694), .val (.int (2 : Int32)), .val (.ref b706), .unset] []))
        refine own_st (fun t_ => XS.aload (own_here Y803) hx rfl (hb hby at_116) rfl rfl) ?_
        show own_Ends _ _ _ _ (T802.setTop (mkF m 118 #[.val (.int x0), .val (.int x1), .val (.int x2), .val (.int x3), .val (.int t0), .val (.int t1), .val (.int t2), .val (.ref b667), .val (.ref r694), .val (.int (2 : Int32)), .val (.ref b706), .unset] [(.ref b706)]))
        refine own_st (fun t_ => XS.iload (own_here Y803) hx rfl (hb hby at_118) rfl) ?_
        show own_Ends _ _ _ _ (T802.setTop (mkF m 120 #[.val (.int x0), .val (.int x1), .val (.int x2), .val (.int x3), .val (.int t0), .val (.int t1), .val (.int t2), .val (.ref b667), .val (.ref r694), .val (.int (2 : Int32)), .val (.ref b706), .unset] [(.int (2 : Int32)), (.ref b706)]))
        refine own_st (fun t_ => XS.iconst (own_here Y803) hx rfl (hb hby at_120) ) ?_
        show own_Ends _ _ _ _ (T802.setTop (mkF m 121 #[.val (.int x0), .val (.int x1), .val (.int x2), .val (.int x3), .val (.int t0), .val (.int t1), .val (.int t2), .val (.ref b667), .val (.ref r694), .val (.int (2 : Int32)), .val (.ref b706), .unset] [(.int (2 : Int32)), (.int (2 : Int32)), (.ref b706)]))
        refine own_stI Y803 hx hZ A806 g710 (i := 2) (by decide) (by decide) (Nat.le_of_ble_eq_true rfl) rfl rfl (hb hby at_121) (fun T808 h810 Y809 W811 A812 => ?_)
        replace A812 : own_A Z h810 b706 .int [(.int (0 : Int32)), (.int (1 : Int32)), (.int (2 : Int32))] := A812
        show own_Ends _ _ _ _ (T808.setTop (mkF m 122 #[.val (.int x0), .val (.int x1), .val (.int x2), .val (.int x3), .val (.int t0), .val (.int t1), .val (.int t2), .val (.ref b667), .val (.ref r694), .val (.int (2 : Int32)), .val (.ref b706), .unset] []))
        refine own_st (fun t_ => XS.iinc (own_here Y809) hx rfl (hb hby at_122) rfl (l' := #[.val (.int x0), .val (.int x1), .val (.int x2), .val (.int x3), .val (.int t0), .val (.int t1), .val (.int t2), .val (.ref b667), .val (.ref r694), .val (.int (3 : Int32)), .val (.ref b706), .unset]) rfl) ?_
        show own_Ends _ _ _ _ (T808.setTop (mkF m 125 #[.val (.int x0), .val (.int x1), .val (.int x2), .val (.int x3), .val (.int t0), .val (.int t1), .val (.int t2), .val (.ref b667), .val (.ref r694), .val (.int (3 : Int32)), .val (.ref b706), .unset] []))
        have hes2 := hes; simp only [own_es, c85_795, c99_801, c113_807, if_true, if_false, List.nil_append, List.append_nil, List.cons_append] at hes2
        have z813 : n0 ≤ h703.size := Nat.le_trans z695 E704.1
        have z814 : n0 ≤ h798.size := Nat.le_trans z813 (Nat.le_of_eq W799.size.symm)
        have z815 : n0 ≤ h804.size := Nat.le_trans z814 (Nat.le_of_eq W805.size.symm)
        have z816 : n0 ≤ h810.size := Nat.le_trans z815 (Nat.le_of_eq W811.size.symm)
        have f817 : Exa Z h703 r694 "com/example/poset/poset/core/Marking" := E696.ext E704
        have f818 : Exa Z h798 r694 "com/example/poset/poset/core/Marking" := f817.wr W799
        have f819 : Exa Z h804 r694 "com/example/poset/poset/core/Marking" := f818.wr W805
        have f820 : Exa Z h810 r694 "com/example/poset/poset/core/Marking" := f819.wr W811
        have f821 : Fld Z h703 r694 "com/example/poset/poset/core/Marking" "size" "I" (.int (3 : Int32)) := F697.ext E704
        have f822 : Fld Z h798 r694 "com/example/poset/poset/core/Marking" "size" "I" (.int (3 : Int32)) := f821.other W799 (Or.inl ne708)
        have f823 : Fld Z h804 r694 "com/example/poset/poset/core/Marking" "size" "I" (.int (3 : Int32)) := f822.other W805 (Or.inl ne708)
        have f824 : Fld Z h810 r694 "com/example/poset/poset/core/Marking" "size" "I" (.int (3 : Int32)) := f823.other W811 (Or.inl ne708)
        have f825 : Fld Z h703 r694 "com/example/poset/poset/core/Marking" "entries" "[J" (.ref ra) := F698.ext E704
        have f826 : Fld Z h798 r694 "com/example/poset/poset/core/Marking" "entries" "[J" (.ref ra) := f825.other W799 (Or.inl ne708)
        have f827 : Fld Z h804 r694 "com/example/poset/poset/core/Marking" "entries" "[J" (.ref ra) := f826.other W805 (Or.inl ne708)
        have f828 : Fld Z h810 r694 "com/example/poset/poset/core/Marking" "entries" "[J" (.ref ra) := f827.other W811 (Or.inl ne708)
        have f829 : Fld Z h703 r694 "com/example/poset/poset/core/Marking" "wide" "Z" (.int (0 : Int32)) := F699.ext E704
        have f830 : Fld Z h798 r694 "com/example/poset/poset/core/Marking" "wide" "Z" (.int (0 : Int32)) := f829.other W799 (Or.inl ne708)
        have f831 : Fld Z h804 r694 "com/example/poset/poset/core/Marking" "wide" "Z" (.int (0 : Int32)) := f830.other W805 (Or.inl ne708)
        have f832 : Fld Z h810 r694 "com/example/poset/poset/core/Marking" "wide" "Z" (.int (0 : Int32)) := f831.other W811 (Or.inl ne708)
        have f833 : own_A Z h703 ra .long (es.map Value.long) := A700.ext E704
        have f834 : own_A Z h798 ra .long (es.map Value.long) := f833.other W799 ne709
        have f835 : own_A Z h804 ra .long (es.map Value.long) := f834.other W805 ne709
        have f836 : own_A Z h810 ra .long (es.map Value.long) := f835.other W811 ne709
        exact hJ711 T808 h810  ((3 : Int32)) ((0 : Int32)) ((1 : Int32)) ((2 : Int32)) Y809 z816 f820 f824 f828 f832 f836 A812 (by rw [← hes2]; rfl) (by intro k hk; rw [← hes2] at hk ⊢; simp only [List.length_cons, List.length_nil] at hk; match k, hk with | 0, _ => exact (own_pl0 p0).symm | 1, _ => exact (own_pl1 p1).symm | 2, _ => exact (own_pl2 p2).symm)
       ·
        refine own_st (fun t_ => XS.ifYes (own_here Y803) hx rfl (pc0 := 113) (pc' := 125) rfl (hb hby at_113) rfl (XT.i0_le_t c113_807) (by decide) (by decide)) ?_
        show own_Ends _ _ _ _ (T802.setTop (mkF m 125 #[.val (.int x0), .val (.int x1), .val (.int x2), .val (.int x3), .val (.int t0), .val (.int t1), .val (.int t2), .val (.ref b667), .val (.ref r694), .val (.int (2 : Int32)), .val (.ref b706), .unset] []))
        have hes2 := hes; simp only [own_es, c85_795, c99_801, c113_807, if_true, if_false, List.nil_append, List.append_nil, List.cons_append] at hes2
        have z837 : n0 ≤ h703.size := Nat.le_trans z695 E704.1
        have z838 : n0 ≤ h798.size := Nat.le_trans z837 (Nat.le_of_eq W799.size.symm)
        have z839 : n0 ≤ h804.size := Nat.le_trans z838 (Nat.le_of_eq W805.size.symm)
        have f840 : Exa Z h703 r694 "com/example/poset/poset/core/Marking" := E696.ext E704
        have f841 : Exa Z h798 r694 "com/example/poset/poset/core/Marking" := f840.wr W799
        have f842 : Exa Z h804 r694 "com/example/poset/poset/core/Marking" := f841.wr W805
        have f843 : Fld Z h703 r694 "com/example/poset/poset/core/Marking" "size" "I" (.int (3 : Int32)) := F697.ext E704
        have f844 : Fld Z h798 r694 "com/example/poset/poset/core/Marking" "size" "I" (.int (3 : Int32)) := f843.other W799 (Or.inl ne708)
        have f845 : Fld Z h804 r694 "com/example/poset/poset/core/Marking" "size" "I" (.int (3 : Int32)) := f844.other W805 (Or.inl ne708)
        have f846 : Fld Z h703 r694 "com/example/poset/poset/core/Marking" "entries" "[J" (.ref ra) := F698.ext E704
        have f847 : Fld Z h798 r694 "com/example/poset/poset/core/Marking" "entries" "[J" (.ref ra) := f846.other W799 (Or.inl ne708)
        have f848 : Fld Z h804 r694 "com/example/poset/poset/core/Marking" "entries" "[J" (.ref ra) := f847.other W805 (Or.inl ne708)
        have f849 : Fld Z h703 r694 "com/example/poset/poset/core/Marking" "wide" "Z" (.int (0 : Int32)) := F699.ext E704
        have f850 : Fld Z h798 r694 "com/example/poset/poset/core/Marking" "wide" "Z" (.int (0 : Int32)) := f849.other W799 (Or.inl ne708)
        have f851 : Fld Z h804 r694 "com/example/poset/poset/core/Marking" "wide" "Z" (.int (0 : Int32)) := f850.other W805 (Or.inl ne708)
        have f852 : own_A Z h703 ra .long (es.map Value.long) := A700.ext E704
        have f853 : own_A Z h798 ra .long (es.map Value.long) := f852.other W799 ne709
        have f854 : own_A Z h804 ra .long (es.map Value.long) := f853.other W805 ne709
        exact hJ711 T802 h804  ((2 : Int32)) ((0 : Int32)) ((1 : Int32)) ((0 : Int32)) Y803 z839 f842 f845 f848 f851 f854 A806 (by rw [← hes2]; rfl) (by intro k hk; rw [← hes2] at hk ⊢; simp only [List.length_cons, List.length_nil] at hk; match k, hk with | 0, _ => exact (own_pl0 p0).symm | 1, _ => exact (own_pl1 p1).symm)
      ·
       refine own_st (fun t_ => XS.ifYes (own_here Y797) hx rfl (pc0 := 99) (pc' := 111) rfl (hb hby at_99) rfl (XT.i0_le_t c99_801) (by decide) (by decide)) ?_
       show own_Ends _ _ _ _ (T796.setTop (mkF m 111 #[.val (.int x0), .val (.int x1), .val (.int x2), .val (.int x3), .val (.int t0), .val (.int t1), .val (.int t2), .val (.ref b667), .val (.ref r694), .val (.int (1 : Int32)), .val (.ref b706), .unset] []))
       refine own_st (fun t_ => XS.iload (own_here Y797) hx rfl (hb hby at_111) rfl) ?_
       show own_Ends _ _ _ _ (T796.setTop (mkF m 113 #[.val (.int x0), .val (.int x1), .val (.int x2), .val (.int x3), .val (.int t0), .val (.int t1), .val (.int t2), .val (.ref b667), .val (.ref r694), .val (.int (1 : Int32)), .val (.ref b706), .unset] [(.int t2)]))
       by_cases c113_855 : (0 : Int32) < t2
       ·
        refine own_st (fun t_ => XS.ifNo (own_here Y797) hx rfl (hb hby at_113) rfl (XT.i0_le_f c113_855)) ?_
        show own_Ends _ _ _ _ (T796.setTop (mkF m 116 #[.val (.int x0), .val (.int x1), .val (.int x2), .val (.int x3), .val (.int t0), .val (.int t1), .val (.int t2), .val (.ref b667), .val (.ref r694), .val (.int (1 : Int32)), .val (.ref b706), .unset] []))
        refine own_st (fun t_ => XS.aload (own_here Y797) hx rfl (hb hby at_116) rfl rfl) ?_
        show own_Ends _ _ _ _ (T796.setTop (mkF m 118 #[.val (.int x0), .val (.int x1), .val (.int x2), .val (.int x3), .val (.int t0), .val (.int t1), .val (.int t2), .val (.ref b667), .val (.ref r694), .val (.int (1 : Int32)), .val (.ref b706), .unset] [(.ref b706)]))
        refine own_st (fun t_ => XS.iload (own_here Y797) hx rfl (hb hby at_118) rfl) ?_
        show own_Ends _ _ _ _ (T796.setTop (mkF m 120 #[.val (.int x0), .val (.int x1), .val (.int x2), .val (.int x3), .val (.int t0), .val (.int t1), .val (.int t2), .val (.ref b667), .val (.ref r694), .val (.int (1 : Int32)), .val (.ref b706), .unset] [(.int (1 : Int32)), (.ref b706)]))
        refine own_st (fun t_ => XS.iconst (own_here Y797) hx rfl (hb hby at_120) ) ?_
        show own_Ends _ _ _ _ (T796.setTop (mkF m 121 #[.val (.int x0), .val (.int x1), .val (.int x2), .val (.int x3), .val (.int t0), .val (.int t1), .val (.int t2), .val (.ref b667), .val (.ref r694), .val (.int (1 : Int32)), .val (.ref b706), .unset] [(.int (2 : Int32)), (.int (1 : Int32)), (.ref b706)]))
        refine own_stI Y797 hx hZ A800 g710 (i := 1) (by decide) (by decide) (Nat.le_of_ble_eq_true rfl) rfl rfl (hb hby at_121) (fun T856 h858 Y857 W859 A860 => ?_)
        replace A860 : own_A Z h858 b706 .int [(.int (0 : Int32)), (.int (2 : Int32)), (.int (0 : Int32))] := A860
        show own_Ends _ _ _ _ (T856.setTop (mkF m 122 #[.val (.int x0), .val (.int x1), .val (.int x2), .val (.int x3), .val (.int t0), .val (.int t1), .val (.int t2), .val (.ref b667), .val (.ref r694), .val (.int (1 : Int32)), .val (.ref b706), .unset] []))
        refine own_st (fun t_ => XS.iinc (own_here Y857) hx rfl (hb hby at_122) rfl (l' := #[.val (.int x0), .val (.int x1), .val (.int x2), .val (.int x3), .val (.int t0), .val (.int t1), .val (.int t2), .val (.ref b667), .val (.ref r694), .val (.int (2 : Int32)), .val (.ref b706), .unset]) rfl) ?_
        show own_Ends _ _ _ _ (T856.setTop (mkF m 125 #[.val (.int x0), .val (.int x1), .val (.int x2), .val (.int x3), .val (.int t0), .val (.int t1), .val (.int t2), .val (.ref b667), .val (.ref r694), .val (.int (2 : Int32)), .val (.ref b706), .unset] []))
        have hes2 := hes; simp only [own_es, c85_795, c99_801, c113_855, if_true, if_false, List.nil_append, List.append_nil, List.cons_append] at hes2
        have z861 : n0 ≤ h703.size := Nat.le_trans z695 E704.1
        have z862 : n0 ≤ h798.size := Nat.le_trans z861 (Nat.le_of_eq W799.size.symm)
        have z863 : n0 ≤ h858.size := Nat.le_trans z862 (Nat.le_of_eq W859.size.symm)
        have f864 : Exa Z h703 r694 "com/example/poset/poset/core/Marking" := E696.ext E704
        have f865 : Exa Z h798 r694 "com/example/poset/poset/core/Marking" := f864.wr W799
        have f866 : Exa Z h858 r694 "com/example/poset/poset/core/Marking" := f865.wr W859
        have f867 : Fld Z h703 r694 "com/example/poset/poset/core/Marking" "size" "I" (.int (3 : Int32)) := F697.ext E704
        have f868 : Fld Z h798 r694 "com/example/poset/poset/core/Marking" "size" "I" (.int (3 : Int32)) := f867.other W799 (Or.inl ne708)
        have f869 : Fld Z h858 r694 "com/example/poset/poset/core/Marking" "size" "I" (.int (3 : Int32)) := f868.other W859 (Or.inl ne708)
        have f870 : Fld Z h703 r694 "com/example/poset/poset/core/Marking" "entries" "[J" (.ref ra) := F698.ext E704
        have f871 : Fld Z h798 r694 "com/example/poset/poset/core/Marking" "entries" "[J" (.ref ra) := f870.other W799 (Or.inl ne708)
        have f872 : Fld Z h858 r694 "com/example/poset/poset/core/Marking" "entries" "[J" (.ref ra) := f871.other W859 (Or.inl ne708)
        have f873 : Fld Z h703 r694 "com/example/poset/poset/core/Marking" "wide" "Z" (.int (0 : Int32)) := F699.ext E704
        have f874 : Fld Z h798 r694 "com/example/poset/poset/core/Marking" "wide" "Z" (.int (0 : Int32)) := f873.other W799 (Or.inl ne708)
        have f875 : Fld Z h858 r694 "com/example/poset/poset/core/Marking" "wide" "Z" (.int (0 : Int32)) := f874.other W859 (Or.inl ne708)
        have f876 : own_A Z h703 ra .long (es.map Value.long) := A700.ext E704
        have f877 : own_A Z h798 ra .long (es.map Value.long) := f876.other W799 ne709
        have f878 : own_A Z h858 ra .long (es.map Value.long) := f877.other W859 ne709
        exact hJ711 T856 h858  ((2 : Int32)) ((0 : Int32)) ((2 : Int32)) ((0 : Int32)) Y857 z863 f866 f869 f872 f875 f878 A860 (by rw [← hes2]; rfl) (by intro k hk; rw [← hes2] at hk ⊢; simp only [List.length_cons, List.length_nil] at hk; match k, hk with | 0, _ => exact (own_pl0 p0).symm | 1, _ => exact (own_pl2 p2).symm)
       ·
        refine own_st (fun t_ => XS.ifYes (own_here Y797) hx rfl (pc0 := 113) (pc' := 125) rfl (hb hby at_113) rfl (XT.i0_le_t c113_855) (by decide) (by decide)) ?_
        show own_Ends _ _ _ _ (T796.setTop (mkF m 125 #[.val (.int x0), .val (.int x1), .val (.int x2), .val (.int x3), .val (.int t0), .val (.int t1), .val (.int t2), .val (.ref b667), .val (.ref r694), .val (.int (1 : Int32)), .val (.ref b706), .unset] []))
        have hes2 := hes; simp only [own_es, c85_795, c99_801, c113_855, if_true, if_false, List.nil_append, List.append_nil, List.cons_append] at hes2
        have z879 : n0 ≤ h703.size := Nat.le_trans z695 E704.1
        have z880 : n0 ≤ h798.size := Nat.le_trans z879 (Nat.le_of_eq W799.size.symm)
        have f881 : Exa Z h703 r694 "com/example/poset/poset/core/Marking" := E696.ext E704
        have f882 : Exa Z h798 r694 "com/example/poset/poset/core/Marking" := f881.wr W799
        have f883 : Fld Z h703 r694 "com/example/poset/poset/core/Marking" "size" "I" (.int (3 : Int32)) := F697.ext E704
        have f884 : Fld Z h798 r694 "com/example/poset/poset/core/Marking" "size" "I" (.int (3 : Int32)) := f883.other W799 (Or.inl ne708)
        have f885 : Fld Z h703 r694 "com/example/poset/poset/core/Marking" "entries" "[J" (.ref ra) := F698.ext E704
        have f886 : Fld Z h798 r694 "com/example/poset/poset/core/Marking" "entries" "[J" (.ref ra) := f885.other W799 (Or.inl ne708)
        have f887 : Fld Z h703 r694 "com/example/poset/poset/core/Marking" "wide" "Z" (.int (0 : Int32)) := F699.ext E704
        have f888 : Fld Z h798 r694 "com/example/poset/poset/core/Marking" "wide" "Z" (.int (0 : Int32)) := f887.other W799 (Or.inl ne708)
        have f889 : own_A Z h703 ra .long (es.map Value.long) := A700.ext E704
        have f890 : own_A Z h798 ra .long (es.map Value.long) := f889.other W799 ne709
        exact hJ711 T796 h798  ((1 : Int32)) ((0 : Int32)) ((0 : Int32)) ((0 : Int32)) Y797 z880 f882 f884 f886 f888 f890 A800 (by rw [← hes2]; rfl) (by intro k hk; rw [← hes2] at hk ⊢; simp only [List.length_cons, List.length_nil] at hk; match k, hk with | 0, _ => exact (own_pl0 p0).symm)
     ·
      refine own_st (fun t_ => XS.ifYes (own_here Y702) hx rfl (pc0 := 85) (pc' := 97) rfl (hb hby at_85) rfl (XT.i0_le_t c85_795) (by decide) (by decide)) ?_
      show own_Ends _ _ _ _ (T701.setTop (mkF m 97 #[.val (.int x0), .val (.int x1), .val (.int x2), .val (.int x3), .val (.int t0), .val (.int t1), .val (.int t2), .val (.ref b667), .val (.ref r694), .val (.int (0 : Int32)), .val (.ref b706), .unset] []))
      refine own_st (fun t_ => XS.iload (own_here Y702) hx rfl (hb hby at_97) rfl) ?_
      show own_Ends _ _ _ _ (T701.setTop (mkF m 99 #[.val (.int x0), .val (.int x1), .val (.int x2), .val (.int x3), .val (.int t0), .val (.int t1), .val (.int t2), .val (.ref b667), .val (.ref r694), .val (.int (0 : Int32)), .val (.ref b706), .unset] [(.int t1)]))
      by_cases c99_891 : (0 : Int32) < t1
      ·
       refine own_st (fun t_ => XS.ifNo (own_here Y702) hx rfl (hb hby at_99) rfl (XT.i0_le_f c99_891)) ?_
       show own_Ends _ _ _ _ (T701.setTop (mkF m 102 #[.val (.int x0), .val (.int x1), .val (.int x2), .val (.int x3), .val (.int t0), .val (.int t1), .val (.int t2), .val (.ref b667), .val (.ref r694), .val (.int (0 : Int32)), .val (.ref b706), .unset] []))
       refine own_st (fun t_ => XS.aload (own_here Y702) hx rfl (hb hby at_102) rfl rfl) ?_
       show own_Ends _ _ _ _ (T701.setTop (mkF m 104 #[.val (.int x0), .val (.int x1), .val (.int x2), .val (.int x3), .val (.int t0), .val (.int t1), .val (.int t2), .val (.ref b667), .val (.ref r694), .val (.int (0 : Int32)), .val (.ref b706), .unset] [(.ref b706)]))
       refine own_st (fun t_ => XS.iload (own_here Y702) hx rfl (hb hby at_104) rfl) ?_
       show own_Ends _ _ _ _ (T701.setTop (mkF m 106 #[.val (.int x0), .val (.int x1), .val (.int x2), .val (.int x3), .val (.int t0), .val (.int t1), .val (.int t2), .val (.ref b667), .val (.ref r694), .val (.int (0 : Int32)), .val (.ref b706), .unset] [(.int (0 : Int32)), (.ref b706)]))
       refine own_st (fun t_ => XS.iconst (own_here Y702) hx rfl (hb hby at_106) ) ?_
       show own_Ends _ _ _ _ (T701.setTop (mkF m 107 #[.val (.int x0), .val (.int x1), .val (.int x2), .val (.int x3), .val (.int t0), .val (.int t1), .val (.int t2), .val (.ref b667), .val (.ref r694), .val (.int (0 : Int32)), .val (.ref b706), .unset] [(.int (1 : Int32)), (.int (0 : Int32)), (.ref b706)]))
       refine own_stI Y702 hx hZ A705 g710 (i := 0) (by decide) (by decide) (Nat.le_of_ble_eq_true rfl) rfl rfl (hb hby at_107) (fun T892 h894 Y893 W895 A896 => ?_)
       replace A896 : own_A Z h894 b706 .int [(.int (1 : Int32)), (.int (0 : Int32)), (.int (0 : Int32))] := A896
       show own_Ends _ _ _ _ (T892.setTop (mkF m 108 #[.val (.int x0), .val (.int x1), .val (.int x2), .val (.int x3), .val (.int t0), .val (.int t1), .val (.int t2), .val (.ref b667), .val (.ref r694), .val (.int (0 : Int32)), .val (.ref b706), .unset] []))
       refine own_st (fun t_ => XS.iinc (own_here Y893) hx rfl (hb hby at_108) rfl (l' := #[.val (.int x0), .val (.int x1), .val (.int x2), .val (.int x3), .val (.int t0), .val (.int t1), .val (.int t2), .val (.ref b667), .val (.ref r694), .val (.int (1 : Int32)), .val (.ref b706), .unset]) rfl) ?_
       show own_Ends _ _ _ _ (T892.setTop (mkF m 111 #[.val (.int x0), .val (.int x1), .val (.int x2), .val (.int x3), .val (.int t0), .val (.int t1), .val (.int t2), .val (.ref b667), .val (.ref r694), .val (.int (1 : Int32)), .val (.ref b706), .unset] []))
       refine own_st (fun t_ => XS.iload (own_here Y893) hx rfl (hb hby at_111) rfl) ?_
       show own_Ends _ _ _ _ (T892.setTop (mkF m 113 #[.val (.int x0), .val (.int x1), .val (.int x2), .val (.int x3), .val (.int t0), .val (.int t1), .val (.int t2), .val (.ref b667), .val (.ref r694), .val (.int (1 : Int32)), .val (.ref b706), .unset] [(.int t2)]))
       by_cases c113_897 : (0 : Int32) < t2
       ·
        refine own_st (fun t_ => XS.ifNo (own_here Y893) hx rfl (hb hby at_113) rfl (XT.i0_le_f c113_897)) ?_
        show own_Ends _ _ _ _ (T892.setTop (mkF m 116 #[.val (.int x0), .val (.int x1), .val (.int x2), .val (.int x3), .val (.int t0), .val (.int t1), .val (.int t2), .val (.ref b667), .val (.ref r694), .val (.int (1 : Int32)), .val (.ref b706), .unset] []))
        refine own_st (fun t_ => XS.aload (own_here Y893) hx rfl (hb hby at_116) rfl rfl) ?_
        show own_Ends _ _ _ _ (T892.setTop (mkF m 118 #[.val (.int x0), .val (.int x1), .val (.int x2), .val (.int x3), .val (.int t0), .val (.int t1), .val (.int t2), .val (.ref b667), .val (.ref r694), .val (.int (1 : Int32)), .val (.ref b706), .unset] [(.ref b706)]))
        refine own_st (fun t_ => XS.iload (own_here Y893) hx rfl (hb hby at_118) rfl) ?_
        show own_Ends _ _ _ _ (T892.setTop (mkF m 120 #[.val (.int x0), .val (.int x1), .val (.int x2), .val (.int x3), .val (.int t0), .val (.int t1), .val (.int t2), .val (.ref b667), .val (.ref r694), .val (.int (1 : Int32)), .val (.ref b706), .unset] [(.int (1 : Int32)), (.ref b706)]))
        refine own_st (fun t_ => XS.iconst (own_here Y893) hx rfl (hb hby at_120) ) ?_
        show own_Ends _ _ _ _ (T892.setTop (mkF m 121 #[.val (.int x0), .val (.int x1), .val (.int x2), .val (.int x3), .val (.int t0), .val (.int t1), .val (.int t2), .val (.ref b667), .val (.ref r694), .val (.int (1 : Int32)), .val (.ref b706), .unset] [(.int (2 : Int32)), (.int (1 : Int32)), (.ref b706)]))
        refine own_stI Y893 hx hZ A896 g710 (i := 1) (by decide) (by decide) (Nat.le_of_ble_eq_true rfl) rfl rfl (hb hby at_121) (fun T898 h900 Y899 W901 A902 => ?_)
        replace A902 : own_A Z h900 b706 .int [(.int (1 : Int32)), (.int (2 : Int32)), (.int (0 : Int32))] := A902
        show own_Ends _ _ _ _ (T898.setTop (mkF m 122 #[.val (.int x0), .val (.int x1), .val (.int x2), .val (.int x3), .val (.int t0), .val (.int t1), .val (.int t2), .val (.ref b667), .val (.ref r694), .val (.int (1 : Int32)), .val (.ref b706), .unset] []))
        refine own_st (fun t_ => XS.iinc (own_here Y899) hx rfl (hb hby at_122) rfl (l' := #[.val (.int x0), .val (.int x1), .val (.int x2), .val (.int x3), .val (.int t0), .val (.int t1), .val (.int t2), .val (.ref b667), .val (.ref r694), .val (.int (2 : Int32)), .val (.ref b706), .unset]) rfl) ?_
        show own_Ends _ _ _ _ (T898.setTop (mkF m 125 #[.val (.int x0), .val (.int x1), .val (.int x2), .val (.int x3), .val (.int t0), .val (.int t1), .val (.int t2), .val (.ref b667), .val (.ref r694), .val (.int (2 : Int32)), .val (.ref b706), .unset] []))
        have hes2 := hes; simp only [own_es, c85_795, c99_891, c113_897, if_true, if_false, List.nil_append, List.append_nil, List.cons_append] at hes2
        have z903 : n0 ≤ h703.size := Nat.le_trans z695 E704.1
        have z904 : n0 ≤ h894.size := Nat.le_trans z903 (Nat.le_of_eq W895.size.symm)
        have z905 : n0 ≤ h900.size := Nat.le_trans z904 (Nat.le_of_eq W901.size.symm)
        have f906 : Exa Z h703 r694 "com/example/poset/poset/core/Marking" := E696.ext E704
        have f907 : Exa Z h894 r694 "com/example/poset/poset/core/Marking" := f906.wr W895
        have f908 : Exa Z h900 r694 "com/example/poset/poset/core/Marking" := f907.wr W901
        have f909 : Fld Z h703 r694 "com/example/poset/poset/core/Marking" "size" "I" (.int (3 : Int32)) := F697.ext E704
        have f910 : Fld Z h894 r694 "com/example/poset/poset/core/Marking" "size" "I" (.int (3 : Int32)) := f909.other W895 (Or.inl ne708)
        have f911 : Fld Z h900 r694 "com/example/poset/poset/core/Marking" "size" "I" (.int (3 : Int32)) := f910.other W901 (Or.inl ne708)
        have f912 : Fld Z h703 r694 "com/example/poset/poset/core/Marking" "entries" "[J" (.ref ra) := F698.ext E704
        have f913 : Fld Z h894 r694 "com/example/poset/poset/core/Marking" "entries" "[J" (.ref ra) := f912.other W895 (Or.inl ne708)
        have f914 : Fld Z h900 r694 "com/example/poset/poset/core/Marking" "entries" "[J" (.ref ra) := f913.other W901 (Or.inl ne708)
        have f915 : Fld Z h703 r694 "com/example/poset/poset/core/Marking" "wide" "Z" (.int (0 : Int32)) := F699.ext E704
        have f916 : Fld Z h894 r694 "com/example/poset/poset/core/Marking" "wide" "Z" (.int (0 : Int32)) := f915.other W895 (Or.inl ne708)
        have f917 : Fld Z h900 r694 "com/example/poset/poset/core/Marking" "wide" "Z" (.int (0 : Int32)) := f916.other W901 (Or.inl ne708)
        have f918 : own_A Z h703 ra .long (es.map Value.long) := A700.ext E704
        have f919 : own_A Z h894 ra .long (es.map Value.long) := f918.other W895 ne709
        have f920 : own_A Z h900 ra .long (es.map Value.long) := f919.other W901 ne709
        exact hJ711 T898 h900  ((2 : Int32)) ((1 : Int32)) ((2 : Int32)) ((0 : Int32)) Y899 z905 f908 f911 f914 f917 f920 A902 (by rw [← hes2]; rfl) (by intro k hk; rw [← hes2] at hk ⊢; simp only [List.length_cons, List.length_nil] at hk; match k, hk with | 0, _ => exact (own_pl1 p1).symm | 1, _ => exact (own_pl2 p2).symm)
       ·
        refine own_st (fun t_ => XS.ifYes (own_here Y893) hx rfl (pc0 := 113) (pc' := 125) rfl (hb hby at_113) rfl (XT.i0_le_t c113_897) (by decide) (by decide)) ?_
        show own_Ends _ _ _ _ (T892.setTop (mkF m 125 #[.val (.int x0), .val (.int x1), .val (.int x2), .val (.int x3), .val (.int t0), .val (.int t1), .val (.int t2), .val (.ref b667), .val (.ref r694), .val (.int (1 : Int32)), .val (.ref b706), .unset] []))
        have hes2 := hes; simp only [own_es, c85_795, c99_891, c113_897, if_true, if_false, List.nil_append, List.append_nil, List.cons_append] at hes2
        have z921 : n0 ≤ h703.size := Nat.le_trans z695 E704.1
        have z922 : n0 ≤ h894.size := Nat.le_trans z921 (Nat.le_of_eq W895.size.symm)
        have f923 : Exa Z h703 r694 "com/example/poset/poset/core/Marking" := E696.ext E704
        have f924 : Exa Z h894 r694 "com/example/poset/poset/core/Marking" := f923.wr W895
        have f925 : Fld Z h703 r694 "com/example/poset/poset/core/Marking" "size" "I" (.int (3 : Int32)) := F697.ext E704
        have f926 : Fld Z h894 r694 "com/example/poset/poset/core/Marking" "size" "I" (.int (3 : Int32)) := f925.other W895 (Or.inl ne708)
        have f927 : Fld Z h703 r694 "com/example/poset/poset/core/Marking" "entries" "[J" (.ref ra) := F698.ext E704
        have f928 : Fld Z h894 r694 "com/example/poset/poset/core/Marking" "entries" "[J" (.ref ra) := f927.other W895 (Or.inl ne708)
        have f929 : Fld Z h703 r694 "com/example/poset/poset/core/Marking" "wide" "Z" (.int (0 : Int32)) := F699.ext E704
        have f930 : Fld Z h894 r694 "com/example/poset/poset/core/Marking" "wide" "Z" (.int (0 : Int32)) := f929.other W895 (Or.inl ne708)
        have f931 : own_A Z h703 ra .long (es.map Value.long) := A700.ext E704
        have f932 : own_A Z h894 ra .long (es.map Value.long) := f931.other W895 ne709
        exact hJ711 T892 h894  ((1 : Int32)) ((1 : Int32)) ((0 : Int32)) ((0 : Int32)) Y893 z922 f924 f926 f928 f930 f932 A896 (by rw [← hes2]; rfl) (by intro k hk; rw [← hes2] at hk ⊢; simp only [List.length_cons, List.length_nil] at hk; match k, hk with | 0, _ => exact (own_pl1 p1).symm)
      ·
       refine own_st (fun t_ => XS.ifYes (own_here Y702) hx rfl (pc0 := 99) (pc' := 111) rfl (hb hby at_99) rfl (XT.i0_le_t c99_891) (by decide) (by decide)) ?_
       show own_Ends _ _ _ _ (T701.setTop (mkF m 111 #[.val (.int x0), .val (.int x1), .val (.int x2), .val (.int x3), .val (.int t0), .val (.int t1), .val (.int t2), .val (.ref b667), .val (.ref r694), .val (.int (0 : Int32)), .val (.ref b706), .unset] []))
       refine own_st (fun t_ => XS.iload (own_here Y702) hx rfl (hb hby at_111) rfl) ?_
       show own_Ends _ _ _ _ (T701.setTop (mkF m 113 #[.val (.int x0), .val (.int x1), .val (.int x2), .val (.int x3), .val (.int t0), .val (.int t1), .val (.int t2), .val (.ref b667), .val (.ref r694), .val (.int (0 : Int32)), .val (.ref b706), .unset] [(.int t2)]))
       by_cases c113_933 : (0 : Int32) < t2
       ·
        refine own_st (fun t_ => XS.ifNo (own_here Y702) hx rfl (hb hby at_113) rfl (XT.i0_le_f c113_933)) ?_
        show own_Ends _ _ _ _ (T701.setTop (mkF m 116 #[.val (.int x0), .val (.int x1), .val (.int x2), .val (.int x3), .val (.int t0), .val (.int t1), .val (.int t2), .val (.ref b667), .val (.ref r694), .val (.int (0 : Int32)), .val (.ref b706), .unset] []))
        refine own_st (fun t_ => XS.aload (own_here Y702) hx rfl (hb hby at_116) rfl rfl) ?_
        show own_Ends _ _ _ _ (T701.setTop (mkF m 118 #[.val (.int x0), .val (.int x1), .val (.int x2), .val (.int x3), .val (.int t0), .val (.int t1), .val (.int t2), .val (.ref b667), .val (.ref r694), .val (.int (0 : Int32)), .val (.ref b706), .unset] [(.ref b706)]))
        refine own_st (fun t_ => XS.iload (own_here Y702) hx rfl (hb hby at_118) rfl) ?_
        show own_Ends _ _ _ _ (T701.setTop (mkF m 120 #[.val (.int x0), .val (.int x1), .val (.int x2), .val (.int x3), .val (.int t0), .val (.int t1), .val (.int t2), .val (.ref b667), .val (.ref r694), .val (.int (0 : Int32)), .val (.ref b706), .unset] [(.int (0 : Int32)), (.ref b706)]))
        refine own_st (fun t_ => XS.iconst (own_here Y702) hx rfl (hb hby at_120) ) ?_
        show own_Ends _ _ _ _ (T701.setTop (mkF m 121 #[.val (.int x0), .val (.int x1), .val (.int x2), .val (.int x3), .val (.int t0), .val (.int t1), .val (.int t2), .val (.ref b667), .val (.ref r694), .val (.int (0 : Int32)), .val (.ref b706), .unset] [(.int (2 : Int32)), (.int (0 : Int32)), (.ref b706)]))
        refine own_stI Y702 hx hZ A705 g710 (i := 0) (by decide) (by decide) (Nat.le_of_ble_eq_true rfl) rfl rfl (hb hby at_121) (fun T934 h936 Y935 W937 A938 => ?_)
        replace A938 : own_A Z h936 b706 .int [(.int (2 : Int32)), (.int (0 : Int32)), (.int (0 : Int32))] := A938
        show own_Ends _ _ _ _ (T934.setTop (mkF m 122 #[.val (.int x0), .val (.int x1), .val (.int x2), .val (.int x3), .val (.int t0), .val (.int t1), .val (.int t2), .val (.ref b667), .val (.ref r694), .val (.int (0 : Int32)), .val (.ref b706), .unset] []))
        refine own_st (fun t_ => XS.iinc (own_here Y935) hx rfl (hb hby at_122) rfl (l' := #[.val (.int x0), .val (.int x1), .val (.int x2), .val (.int x3), .val (.int t0), .val (.int t1), .val (.int t2), .val (.ref b667), .val (.ref r694), .val (.int (1 : Int32)), .val (.ref b706), .unset]) rfl) ?_
        show own_Ends _ _ _ _ (T934.setTop (mkF m 125 #[.val (.int x0), .val (.int x1), .val (.int x2), .val (.int x3), .val (.int t0), .val (.int t1), .val (.int t2), .val (.ref b667), .val (.ref r694), .val (.int (1 : Int32)), .val (.ref b706), .unset] []))
        have hes2 := hes; simp only [own_es, c85_795, c99_891, c113_933, if_true, if_false, List.nil_append, List.append_nil, List.cons_append] at hes2
        have z939 : n0 ≤ h703.size := Nat.le_trans z695 E704.1
        have z940 : n0 ≤ h936.size := Nat.le_trans z939 (Nat.le_of_eq W937.size.symm)
        have f941 : Exa Z h703 r694 "com/example/poset/poset/core/Marking" := E696.ext E704
        have f942 : Exa Z h936 r694 "com/example/poset/poset/core/Marking" := f941.wr W937
        have f943 : Fld Z h703 r694 "com/example/poset/poset/core/Marking" "size" "I" (.int (3 : Int32)) := F697.ext E704
        have f944 : Fld Z h936 r694 "com/example/poset/poset/core/Marking" "size" "I" (.int (3 : Int32)) := f943.other W937 (Or.inl ne708)
        have f945 : Fld Z h703 r694 "com/example/poset/poset/core/Marking" "entries" "[J" (.ref ra) := F698.ext E704
        have f946 : Fld Z h936 r694 "com/example/poset/poset/core/Marking" "entries" "[J" (.ref ra) := f945.other W937 (Or.inl ne708)
        have f947 : Fld Z h703 r694 "com/example/poset/poset/core/Marking" "wide" "Z" (.int (0 : Int32)) := F699.ext E704
        have f948 : Fld Z h936 r694 "com/example/poset/poset/core/Marking" "wide" "Z" (.int (0 : Int32)) := f947.other W937 (Or.inl ne708)
        have f949 : own_A Z h703 ra .long (es.map Value.long) := A700.ext E704
        have f950 : own_A Z h936 ra .long (es.map Value.long) := f949.other W937 ne709
        exact hJ711 T934 h936  ((1 : Int32)) ((2 : Int32)) ((0 : Int32)) ((0 : Int32)) Y935 z940 f942 f944 f946 f948 f950 A938 (by rw [← hes2]; rfl) (by intro k hk; rw [← hes2] at hk ⊢; simp only [List.length_cons, List.length_nil] at hk; match k, hk with | 0, _ => exact (own_pl2 p2).symm)
       ·
        refine own_st (fun t_ => XS.ifYes (own_here Y702) hx rfl (pc0 := 113) (pc' := 125) rfl (hb hby at_113) rfl (XT.i0_le_t c113_933) (by decide) (by decide)) ?_
        show own_Ends _ _ _ _ (T701.setTop (mkF m 125 #[.val (.int x0), .val (.int x1), .val (.int x2), .val (.int x3), .val (.int t0), .val (.int t1), .val (.int t2), .val (.ref b667), .val (.ref r694), .val (.int (0 : Int32)), .val (.ref b706), .unset] []))
        have hes2 := hes; simp only [own_es, c85_795, c99_891, c113_933, if_true, if_false, List.nil_append, List.append_nil, List.cons_append] at hes2
        have z951 : n0 ≤ h703.size := Nat.le_trans z695 E704.1
        have f952 : Exa Z h703 r694 "com/example/poset/poset/core/Marking" := E696.ext E704
        have f953 : Fld Z h703 r694 "com/example/poset/poset/core/Marking" "size" "I" (.int (3 : Int32)) := F697.ext E704
        have f954 : Fld Z h703 r694 "com/example/poset/poset/core/Marking" "entries" "[J" (.ref ra) := F698.ext E704
        have f955 : Fld Z h703 r694 "com/example/poset/poset/core/Marking" "wide" "Z" (.int (0 : Int32)) := F699.ext E704
        have f956 : own_A Z h703 ra .long (es.map Value.long) := A700.ext E704
        exact hJ711 T701 h703  ((0 : Int32)) ((0 : Int32)) ((0 : Int32)) ((0 : Int32)) Y702 z951 f952 f953 f954 f955 f956 A705 (by rw [← hes2]; rfl) (by intro k hk; rw [← hes2] at hk; exact absurd hk (Nat.not_lt_zero k))
    by_cases c35_957 : (x3 &&& (4 : Int32)) = (0 : Int32)
    ·
     refine own_st (fun t_ => XS.ifYes (own_here Y658) hx rfl (pc0 := 35) (pc' := 42) rfl (hb hby at_35) rfl (XT.i0_eq_t c35_957) (by decide) (by decide)) ?_
     show own_Ends _ _ _ _ (T657.setTop (mkF m 42 #[.val (.int x0), .val (.int x1), .val (.int x2), .val (.int x3), .val (.int t0), .val (.int t1), .unset, .unset, .unset, .unset, .unset, .unset] []))
     refine own_st (fun t_ => XS.iloadN (own_here Y658) hx rfl (hb hby at_42) rfl) ?_
     show own_Ends _ _ _ _ (T657.setTop (mkF m 43 #[.val (.int x0), .val (.int x1), .val (.int x2), .val (.int x3), .val (.int t0), .val (.int t1), .unset, .unset, .unset, .unset, .unset, .unset] [(.int x2)]))
     refine own_ldcI Y658 hx hZ hown (hw _ (List.mem_of_getElem? (i := 0) rfl)) rfl (hb hby at_43) ?_
     show own_Ends _ _ _ _ (T657.setTop (mkF m 45 #[.val (.int x0), .val (.int x1), .val (.int x2), .val (.int x3), .val (.int t0), .val (.int t1), .unset, .unset, .unset, .unset, .unset, .unset] [(.int (2147483647 : Int32)), (.int x2)]))
     refine own_st (fun t_ => XS.iand (own_here Y658) hx rfl (hb hby at_45) rfl) ?_
     show own_Ends _ _ _ _ (T657.setTop (mkF m 46 #[.val (.int x0), .val (.int x1), .val (.int x2), .val (.int x3), .val (.int t0), .val (.int t1), .unset, .unset, .unset, .unset, .unset, .unset] [(.int (x2 &&& (2147483647 : Int32)))]))
     exact hJ659 T657   ((x2 &&& (2147483647 : Int32))) Y658  (by rw [c_mask x2 2147483647 31 (by decide) (by decide)]; exact Int.emod_nonneg _ (by decide))
    ·
     refine own_st (fun t_ => XS.ifNo (own_here Y658) hx rfl (hb hby at_35) rfl (XT.i0_eq_f c35_957)) ?_
     show own_Ends _ _ _ _ (T657.setTop (mkF m 38 #[.val (.int x0), .val (.int x1), .val (.int x2), .val (.int x3), .val (.int t0), .val (.int t1), .unset, .unset, .unset, .unset, .unset, .unset] []))
     refine own_st (fun t_ => XS.iconst (own_here Y658) hx rfl (hb hby at_38) ) ?_
     show own_Ends _ _ _ _ (T657.setTop (mkF m 39 #[.val (.int x0), .val (.int x1), .val (.int x2), .val (.int x3), .val (.int t0), .val (.int t1), .unset, .unset, .unset, .unset, .unset, .unset] [(.int (0 : Int32))]))
     refine own_st (fun t_ => XS.goto (own_here Y658) hx rfl (pc0 := 39) (pc' := 46) rfl (hb hby at_39) (by decide) (by decide)) ?_
     show own_Ends _ _ _ _ (T657.setTop (mkF m 46 #[.val (.int x0), .val (.int x1), .val (.int x2), .val (.int x3), .val (.int t0), .val (.int t1), .unset, .unset, .unset, .unset, .unset, .unset] [(.int (0 : Int32))]))
     exact hJ659 T657   ((0 : Int32)) Y658  (by decide)
   by_cases c19_958 : (x3 &&& (2 : Int32)) = (0 : Int32)
   ·
    refine own_st (fun t_ => XS.ifYes (own_here Y655) hx rfl (pc0 := 19) (pc' := 26) rfl (hb hby at_19) rfl (XT.i0_eq_t c19_958) (by decide) (by decide)) ?_
    show own_Ends _ _ _ _ (T654.setTop (mkF m 26 #[.val (.int x0), .val (.int x1), .val (.int x2), .val (.int x3), .val (.int t0), .unset, .unset, .unset, .unset, .unset, .unset, .unset] []))
    refine own_st (fun t_ => XS.iloadN (own_here Y655) hx rfl (hb hby at_26) rfl) ?_
    show own_Ends _ _ _ _ (T654.setTop (mkF m 27 #[.val (.int x0), .val (.int x1), .val (.int x2), .val (.int x3), .val (.int t0), .unset, .unset, .unset, .unset, .unset, .unset, .unset] [(.int x1)]))
    refine own_ldcI Y655 hx hZ hown (hw _ (List.mem_of_getElem? (i := 0) rfl)) rfl (hb hby at_27) ?_
    show own_Ends _ _ _ _ (T654.setTop (mkF m 29 #[.val (.int x0), .val (.int x1), .val (.int x2), .val (.int x3), .val (.int t0), .unset, .unset, .unset, .unset, .unset, .unset, .unset] [(.int (2147483647 : Int32)), (.int x1)]))
    refine own_st (fun t_ => XS.iand (own_here Y655) hx rfl (hb hby at_29) rfl) ?_
    show own_Ends _ _ _ _ (T654.setTop (mkF m 30 #[.val (.int x0), .val (.int x1), .val (.int x2), .val (.int x3), .val (.int t0), .unset, .unset, .unset, .unset, .unset, .unset, .unset] [(.int (x1 &&& (2147483647 : Int32)))]))
    exact hJ656 T654   ((x1 &&& (2147483647 : Int32))) Y655  (by rw [c_mask x1 2147483647 31 (by decide) (by decide)]; exact Int.emod_nonneg _ (by decide))
   ·
    refine own_st (fun t_ => XS.ifNo (own_here Y655) hx rfl (hb hby at_19) rfl (XT.i0_eq_f c19_958)) ?_
    show own_Ends _ _ _ _ (T654.setTop (mkF m 22 #[.val (.int x0), .val (.int x1), .val (.int x2), .val (.int x3), .val (.int t0), .unset, .unset, .unset, .unset, .unset, .unset, .unset] []))
    refine own_st (fun t_ => XS.iconst (own_here Y655) hx rfl (hb hby at_22) ) ?_
    show own_Ends _ _ _ _ (T654.setTop (mkF m 23 #[.val (.int x0), .val (.int x1), .val (.int x2), .val (.int x3), .val (.int t0), .unset, .unset, .unset, .unset, .unset, .unset, .unset] [(.int (0 : Int32))]))
    refine own_st (fun t_ => XS.goto (own_here Y655) hx rfl (pc0 := 23) (pc' := 30) rfl (hb hby at_23) (by decide) (by decide)) ?_
    show own_Ends _ _ _ _ (T654.setTop (mkF m 30 #[.val (.int x0), .val (.int x1), .val (.int x2), .val (.int x3), .val (.int t0), .unset, .unset, .unset, .unset, .unset, .unset, .unset] [(.int (0 : Int32))]))
    exact hJ656 T654   ((0 : Int32)) Y655  (by decide)
  by_cases c3_959 : (x3 &&& (1 : Int32)) = (0 : Int32)
  ·
   refine own_st (fun t_ => XS.ifYes (own_here Y0) hx rfl (pc0 := 3) (pc' := 10) rfl (hb hby at_3) rfl (XT.i0_eq_t c3_959) (by decide) (by decide)) ?_
   show own_Ends _ _ _ _ (T0.setTop (mkF m 10 #[.val (.int x0), .val (.int x1), .val (.int x2), .val (.int x3), .unset, .unset, .unset, .unset, .unset, .unset, .unset, .unset] []))
   refine own_st (fun t_ => XS.iloadN (own_here Y0) hx rfl (hb hby at_10) rfl) ?_
   show own_Ends _ _ _ _ (T0.setTop (mkF m 11 #[.val (.int x0), .val (.int x1), .val (.int x2), .val (.int x3), .unset, .unset, .unset, .unset, .unset, .unset, .unset, .unset] [(.int x0)]))
   refine own_ldcI Y0 hx hZ hown (hw _ (List.mem_of_getElem? (i := 0) rfl)) rfl (hb hby at_11) ?_
   show own_Ends _ _ _ _ (T0.setTop (mkF m 13 #[.val (.int x0), .val (.int x1), .val (.int x2), .val (.int x3), .unset, .unset, .unset, .unset, .unset, .unset, .unset, .unset] [(.int (2147483647 : Int32)), (.int x0)]))
   refine own_st (fun t_ => XS.iand (own_here Y0) hx rfl (hb hby at_13) rfl) ?_
   show own_Ends _ _ _ _ (T0.setTop (mkF m 14 #[.val (.int x0), .val (.int x1), .val (.int x2), .val (.int x3), .unset, .unset, .unset, .unset, .unset, .unset, .unset, .unset] [(.int (x0 &&& (2147483647 : Int32)))]))
   exact hJ653 T0   ((x0 &&& (2147483647 : Int32))) Y0  (by rw [c_mask x0 2147483647 31 (by decide) (by decide)]; exact Int.emod_nonneg _ (by decide))
  ·
   refine own_st (fun t_ => XS.ifNo (own_here Y0) hx rfl (hb hby at_3) rfl (XT.i0_eq_f c3_959)) ?_
   show own_Ends _ _ _ _ (T0.setTop (mkF m 6 #[.val (.int x0), .val (.int x1), .val (.int x2), .val (.int x3), .unset, .unset, .unset, .unset, .unset, .unset, .unset, .unset] []))
   refine own_st (fun t_ => XS.iconst (own_here Y0) hx rfl (hb hby at_6) ) ?_
   show own_Ends _ _ _ _ (T0.setTop (mkF m 7 #[.val (.int x0), .val (.int x1), .val (.int x2), .val (.int x3), .unset, .unset, .unset, .unset, .unset, .unset, .unset, .unset] [(.int (0 : Int32))]))
   refine own_st (fun t_ => XS.goto (own_here Y0) hx rfl (pc0 := 7) (pc' := 14) rfl (hb hby at_7) (by decide) (by decide)) ?_
   show own_Ends _ _ _ _ (T0.setTop (mkF m 14 #[.val (.int x0), .val (.int x1), .val (.int x2), .val (.int x3), .unset, .unset, .unset, .unset, .unset, .unset, .unset, .unset] [(.int (0 : Int32))]))
   exact hJ653 T0   ((0 : Int32)) Y0  (by decide)
set_option maxRecDepth 65536 in
set_option maxHeartbeats 40000000 in
theorem own_comes_1 {Post : Tables → Env → Array Value → State → Outcome → State → Prop} (hpost : ∀ tb e args s v u, (limb_1_1.after args s (.returned v) u = true ∧ limb_1_2.after args s (.returned v) u = true ∧ True) → FrameEnd s (.returned v) u (Jvm.fieldLocs frame_1_writes args s ++ Jvm.arrayLocs frame_1_arrays args s ++ Jvm.staticLocs frame_1_statics s) 16 128 → Post tb e args s (.returned v) u) :
    ArmFor flags0 classFile x code maxLocals ret World_1 tables_1 room_1 Calls_1 rest_1 Pre_1 Post := by
  intro l hfl _ _ p e ha hc hk s m args below hf hA hF happ hP
  obtain ⟨hcalls, hrest, hpre⟩ := hP
  obtain ⟨-, -, -, hnamed, -, -, -, hat⟩ := (Spec.applies_iff hf).mp happ
  obtain ⟨hg, hn⟩ := and_e (Cond.before_iff.mp (show (Jvm.Cond.and given_1 narrow_1).before args s = true from hpre))
  obtain ⟨g1, g2⟩ := and_e hg
  obtain ⟨g3, g4⟩ := and_e g2
  obtain ⟨g5, g6⟩ := and_e g4
  obtain ⟨g7, g8⟩ := and_e g6
  obtain ⟨w0, w1, w2, w3, rfl⟩ : ∃ w0 w1 w2 w3 : Value, args = #[w0, w1, w2, w3] := by
    have hs : args.size = 4 := by simpa [Cond.value, given_1] using g1
    obtain ⟨L⟩ := args
    match L, hs with
    | [w0, w1, w2, w3], _ => exact ⟨w0, w1, w2, w3, rfl⟩
  have hw := fun d (hd : d ∈ tables_1) => atoms_spec (ws := Jvm.Cond.code x code maxLocals ret :: tables_1) hat d (List.mem_cons_of_mem _ hd)
  have hfit : Fit s := fun {y c} hc i hi => by
    obtain ⟨ha, rfl⟩ := Array.getElem?_eq_some_iff.mp hc
    have q := List.all_eq_true.mp ((Array.all_eq_true_iff_forall_mem.mp hF) _ (Array.getElem_mem ha)) i (List.mem_range.mpr hi)
    simpa [Array.getElem?_eq_getElem hi] using q
  obtain ⟨i0, ei0⟩ := is_v g3
  obtain rfl : w0 = (.int i0) := Option.some.inj ei0
  obtain ⟨i1, ei1⟩ := is_v g5
  obtain rfl : w1 = (.int i1) := Option.some.inj ei1
  obtain ⟨i2, ei2⟩ := is_v g7
  obtain rfl : w2 = (.int i2) := Option.some.inj ei2
  obtain ⟨i3, ei3⟩ := is_v g8
  obtain rfl : w3 = (.int i3) := Option.some.inj ei3
  obtain ⟨n, o, h1, h2, h3, _, L, rfl, ⟨N, rfl⟩, hq⟩ := own_rm0 l s _ hw tables_1 i0 i1 i2 i3  s.heap s.heap.size (Nat.le_refl _)  p e ha hc hk s m _ below hf ((Spec.applies_iff_loose hf).mp happ).1 ⟨rfl, State.Warmed39.refl s, rfl⟩ trivial
  refine ⟨n, _, h1, h2, h3, hpost _ _ _ _ _ _ ⟨Cond.after_iff.mpr rfl, Cond.after_iff.mpr (eq_i res_at (Term.int_eval (1)) rfl), trivial⟩ ⟨hq.1, hq.2.1, (hq.2.2.sift fun y hy => Or.inr (N y hy)).mono (by decide) (by decide)⟩⟩
theorem main_1_1 : Claimed_1_1 := own_comes_1 fun _ _ _ _ _ _ h hF => ⟨h.1, hF⟩
theorem main_1_2 : Claimed_1_2 := own_comes_1 fun _ _ _ _ _ _ h hF => ⟨h.2.1, hF⟩
end Jvm.Pilot.@@N@@
namespace Jvm.Pilot.@@N@@
open Jvm Jvm.ClassFile Sem Op Lib Jvm.Free Jvm.Stand Jvm.Pilot.@@N@@.Jvm.D
/-! MADE BY PROGRAM (witnessworld.py) out of the Statement's table words and the real class files: 13 classes; the members and pool entries that the words name. The judged class is class 1, her method 1. -/
namespace start1
open Jvm.ClassFile
def u (s : String) : CpInfo := .utf8 (stringToUtf16 s)
/-- a pool by its gaps: so many unusable entries, then the entry; so many at the end -/
def gap : Nat → List CpInfo → List CpInfo
  | 0, r => r
  | n + 1, r => .unusable :: gap n r
def poolList (es : List (Nat × CpInfo)) (last : Nat) : List CpInfo := es.foldr (fun e r => gap e.1 (e.2 :: r)) (gap last [])
def pool (es : List (Nat × CpInfo)) (last : Nat) : Array CpInfo := ⟨poolList es last⟩
def fileOf (pool : Array CpInfo) (this : Nat) (attrs : Array Attribute := #[]) (ms : Array MethodInfo := #[]) (fl : Nat := 33) (sup : Nat := 0) (ifs : Array Nat := #[]) (fds : Array FieldInfo := #[]) : ClassFile where
  minorVersion := 0
  majorVersion := 65
  constantPool := pool
  accessFlags := fl
  thisClass := this
  superClass := sup
  interfaces := ifs
  fields := fds
  methods := ms
  attributes := attrs
def plain (name : String) (sup : Option ClassId) : Class where
  name := name
  kind := .ordinary
  loader := none
  accessFlags := 33
  super := sup
  interfaces := #[]
  cf := none
  fields := #[]
  methods := #[]
  instanceTypes := #[]
  staticTypes := #[]
  resolved := #[]
  callSites := []
  init := .initialized
  statics := none
  mirror := none

def pool0 : Array CpInfo := pool [(5, u "<init>"), (0, u "()V"), (1, .class_ 10), (1, u "java/lang/Object")] 113

def k0c0 : Code := { maxStack := 0, maxLocals := 1, code := object_method_1_code, exceptionTable := #[], attributes := #[] }
def k0m0 : Method := { name := "<init>", desc := "()V", sig := { parameters := [], returnType := none }, accessFlags := 1, code := some k0c0 }
/-- java/lang/Object -/
def k0 : Class := { plain "java/lang/Object" none with
  accessFlags := 33
  interfaces := #[]
  cf := some (fileOf pool0 8 #[] #[{ accessFlags := 1, nameIndex := 5, descriptorIndex := 6, attributes := #[] }] 33 0 #[] #[])
  fields := #[]
  methods := #[k0m0]
  instanceTypes := #[]
  staticTypes := #[]
  resolved := Array.replicate 124 none
  statics := none }

def pool1 : Array CpInfo := pool [(2, .class_ 4), (1, u "java/lang/Object"), (0, u "<init>"), (0, u "()V"), (0, .integer 2147483647), (0, .methodref 9 10), (0, .class_ 11), (0, .nameAndType 12 13), (0, u "com/example/poset/poset/core/Marking"), (0, u "of"), (0, u "([I)Lcom/example/poset/poset/core/Marking;"), (0, .methodref 9 15), (0, .nameAndType 16 17), (0, u "size"), (0, u "()I"), (0, .methodref 9 19), (0, .nameAndType 20 17), (0, u "markedCount"), (0, .methodref 9 22), (0, .nameAndType 23 24), (0, u "tokens"), (0, u "(I)J"), (0, .methodref 9 26), (0, .nameAndType 27 28), (0, u "markedPlace"), (0, u "(I)I"), (0, .class_ 30), (0, u "com/example/poset/poset/core/MarkingOfPinLaw"), (2, u "law"), (0, u "(IIII)Z")] 5

def k1m0 : Method := { name := "<init>", desc := "()V", sig := { parameters := [], returnType := none }, accessFlags := 1, code := none }
def k1c1 : Code := { maxStack := 4, maxLocals := 12, code := code, exceptionTable := #[], attributes := #[] }
def k1m1 : Method := { name := "law", desc := "(IIII)Z", sig := { parameters := [.int, .int, .int, .int], returnType := some .boolean }, accessFlags := 9, code := some k1c1 }
/-- com/example/poset/poset/core/MarkingOfPinLaw -/
def k1 : Class := { plain "com/example/poset/poset/core/MarkingOfPinLaw" (some 0) with
  accessFlags := 49
  interfaces := #[]
  cf := some (fileOf pool1 29 #[] #[{ accessFlags := 1, nameIndex := 5, descriptorIndex := 6, attributes := #[] }, { accessFlags := 9, nameIndex := 33, descriptorIndex := 34, attributes := #[] }] 49 2 #[] #[])
  fields := #[]
  methods := #[k1m0, k1m1]
  instanceTypes := #[]
  staticTypes := #[]
  resolved := Array.replicate 40 none
  statics := none }

def pool2 : Array CpInfo := pool [(1, .methodref 2 3), (0, .class_ 4), (0, .nameAndType 5 6), (0, u "java/lang/Object"), (0, u "<init>"), (0, u "()V"), (0, .fieldref 8 9), (0, .class_ 10), (0, .nameAndType 11 12), (0, u "com/example/poset/poset/core/Marking"), (0, u "size"), (0, u "I"), (0, .fieldref 8 14), (0, .nameAndType 15 16), (0, u "entries"), (0, u "[J"), (0, .fieldref 8 18), (0, .nameAndType 19 20), (0, u "wide"), (0, u "Z"), (0, .fieldref 8 22), (0, .nameAndType 23 24), (0, u "mixed"), (0, u "J"), (0, .methodref 8 26), (0, .nameAndType 27 28), (0, u "put"), (0, u "([JZIIJ)V"), (0, .methodref 8 30), (0, .nameAndType 31 32), (0, u "mix"), (0, u "(JJ)J"), (0, .methodref 8 34), (0, .nameAndType 5 35), (0, u "(I[JZJ)V"), (0, .methodref 8 37), (0, .nameAndType 38 39), (0, u "markedCount"), (0, u "()I"), (0, .methodref 8 41), (0, .nameAndType 42 43), (0, u "find"), (0, u "(II)I"), (0, .methodref 8 45), (0, .nameAndType 46 47), (0, u "countAt"), (0, u "(I)J"), (5, .long 4294967295), (9, .methodref 64 65), (0, .class_ 66), (0, .nameAndType 67 43), (0, u "java/util/Objects"), (0, u "checkIndex"), (0, .methodref 8 69), (0, .nameAndType 70 71), (0, u "placeAt"), (0, u "(I)I"), (19, u "tokens"), (19, .long 11400714819323198485), (1, u "NARROW"), (3, u "of"), (0, u "([I)Lcom/example/poset/poset/core/Marking;"), (6, u "markedPlace")] 4

def k2c0 : Code := { maxStack := 3, maxLocals := 6, code := prog_47_method_1_code, exceptionTable := #[], attributes := #[] }
def k2m0 : Method := { name := "<init>", desc := "(I[JZJ)V", sig := { parameters := [.int, (.array .long), .boolean, .long], returnType := none }, accessFlags := 2, code := some k2c0 }
def k2c1 : Code := { maxStack := 7, maxLocals := 7, code := prog_47_method_2_code, exceptionTable := #[], attributes := #[] }
def k2m1 : Method := { name := "of", desc := "([I)Lcom/example/poset/poset/core/Marking;", sig := { parameters := [(.array .int)], returnType := some (.object "com/example/poset/poset/core/Marking") }, accessFlags := 8, code := some k2c1 }
def k2c2 : Code := { maxStack := 1, maxLocals := 1, code := prog_47_method_4_code, exceptionTable := #[], attributes := #[] }
def k2m2 : Method := { name := "size", desc := "()I", sig := { parameters := [], returnType := some .int }, accessFlags := 1, code := some k2c2 }
def k2c3 : Code := { maxStack := 3, maxLocals := 3, code := prog_47_method_5_code, exceptionTable := #[], attributes := #[] }
def k2m3 : Method := { name := "tokens", desc := "(I)J", sig := { parameters := [.int], returnType := some .long }, accessFlags := 1, code := some k2c3 }
def k2c4 : Code := { maxStack := 2, maxLocals := 1, code := prog_47_method_6_code, exceptionTable := #[], attributes := #[] }
def k2m4 : Method := { name := "markedCount", desc := "()I", sig := { parameters := [], returnType := some .int }, accessFlags := 1, code := some k2c4 }
def k2c5 : Code := { maxStack := 2, maxLocals := 2, code := prog_47_method_7_code, exceptionTable := #[], attributes := #[] }
def k2m5 : Method := { name := "markedPlace", desc := "(I)I", sig := { parameters := [.int], returnType := some .int }, accessFlags := 1, code := some k2c5 }
def k2c6 : Code := { maxStack := 3, maxLocals := 2, code := prog_47_method_11_code, exceptionTable := #[], attributes := #[] }
def k2m6 : Method := { name := "placeAt", desc := "(I)I", sig := { parameters := [.int], returnType := some .int }, accessFlags := 2, code := some k2c6 }
def k2c7 : Code := { maxStack := 4, maxLocals := 2, code := prog_47_method_12_code, exceptionTable := #[], attributes := #[] }
def k2m7 : Method := { name := "countAt", desc := "(I)J", sig := { parameters := [.int], returnType := some .long }, accessFlags := 2, code := some k2c7 }
def k2c8 : Code := { maxStack := 6, maxLocals := 6, code := prog_47_method_14_code, exceptionTable := #[], attributes := #[] }
def k2m8 : Method := { name := "put", desc := "([JZIIJ)V", sig := { parameters := [(.array .long), .boolean, .int, .int, .long], returnType := none }, accessFlags := 10, code := some k2c8 }
def k2c9 : Code := { maxStack := 2, maxLocals := 7, code := prog_47_method_16_code, exceptionTable := #[], attributes := #[] }
def k2m9 : Method := { name := "find", desc := "(II)I", sig := { parameters := [.int, .int], returnType := some .int }, accessFlags := 2, code := some k2c9 }
def k2c10 : Code := { maxStack := 5, maxLocals := 6, code := prog_47_method_17_code, exceptionTable := #[], attributes := #[] }
def k2m10 : Method := { name := "mix", desc := "(JJ)J", sig := { parameters := [.long, .long], returnType := some .long }, accessFlags := 10, code := some k2c10 }
/-- com/example/poset/poset/core/Marking -/
def k2 : Class := { plain "com/example/poset/poset/core/Marking" (some 0) with
  accessFlags := 33
  interfaces := #[]
  cf := some (fileOf pool2 8 #[] #[{ accessFlags := 2, nameIndex := 5, descriptorIndex := 35, attributes := #[] }, { accessFlags := 8, nameIndex := 117, descriptorIndex := 118, attributes := #[] }, { accessFlags := 1, nameIndex := 11, descriptorIndex := 39, attributes := #[] }, { accessFlags := 1, nameIndex := 91, descriptorIndex := 47, attributes := #[] }, { accessFlags := 1, nameIndex := 38, descriptorIndex := 39, attributes := #[] }, { accessFlags := 1, nameIndex := 125, descriptorIndex := 71, attributes := #[] }, { accessFlags := 2, nameIndex := 70, descriptorIndex := 71, attributes := #[] }, { accessFlags := 2, nameIndex := 46, descriptorIndex := 47, attributes := #[] }, { accessFlags := 10, nameIndex := 27, descriptorIndex := 28, attributes := #[] }, { accessFlags := 2, nameIndex := 42, descriptorIndex := 43, attributes := #[] }, { accessFlags := 10, nameIndex := 31, descriptorIndex := 32, attributes := #[] }] 33 2 #[] #[{ accessFlags := 26, nameIndex := 113, descriptorIndex := 24, attributes := #[] }, { accessFlags := 18, nameIndex := 11, descriptorIndex := 12, attributes := #[] }, { accessFlags := 18, nameIndex := 15, descriptorIndex := 16, attributes := #[] }, { accessFlags := 18, nameIndex := 19, descriptorIndex := 20, attributes := #[] }, { accessFlags := 18, nameIndex := 23, descriptorIndex := 24, attributes := #[] }])
  fields := #[{ name := "NARROW", type := .long, accessFlags := 26, slot := 0, constantValue := 0 }, { name := "size", type := .int, accessFlags := 18, slot := 0, constantValue := 0 }, { name := "entries", type := (.array .long), accessFlags := 18, slot := 1, constantValue := 0 }, { name := "wide", type := .boolean, accessFlags := 18, slot := 2, constantValue := 0 }, { name := "mixed", type := .long, accessFlags := 18, slot := 3, constantValue := 0 }]
  methods := #[k2m0, k2m1, k2m2, k2m3, k2m4, k2m5, k2m6, k2m7, k2m8, k2m9, k2m10]
  instanceTypes := #[.int, (.array .long), .boolean, .long]
  staticTypes := #[.long]
  resolved := Array.replicate 130 none
  statics := none }

def pool3 : Array CpInfo := pool [(2, .class_ 4), (1, u "java/lang/Object"), (0, u "<init>"), (0, u "()V"), (35, .class_ 44), (1, u "java/util/Objects"), (60, .methodref 106 107), (0, .class_ 108), (0, .nameAndType 109 110), (0, u "jdk/internal/util/Preconditions"), (0, u "checkIndex"), (0, u "(IILjava/util/function/BiFunction;)I"), (60, u "(II)I")] 12

def k3m0 : Method := { name := "<init>", desc := "()V", sig := { parameters := [], returnType := none }, accessFlags := 2, code := none }
def k3c1 : Code := { maxStack := 3, maxLocals := 2, code := jdk_31_method_17_code, exceptionTable := #[], attributes := #[] }
def k3m1 : Method := { name := "checkIndex", desc := "(II)I", sig := { parameters := [.int, .int], returnType := some .int }, accessFlags := 9, code := some k3c1 }
/-- java/util/Objects -/
def k3 : Class := { plain "java/util/Objects" (some 0) with
  accessFlags := 49
  interfaces := #[]
  cf := some (fileOf pool3 42 #[] #[{ accessFlags := 2, nameIndex := 5, descriptorIndex := 6, attributes := #[] }, { accessFlags := 9, nameIndex := 109, descriptorIndex := 171, attributes := #[] }] 49 2 #[] #[])
  fields := #[]
  methods := #[k3m0, k3m1]
  instanceTypes := #[]
  staticTypes := #[]
  resolved := Array.replicate 184 none
  statics := none }

def pool4 : Array CpInfo := pool [(2, .class_ 4), (1, u "java/lang/Object"), (0, u "<init>"), (0, u "()V"), (17, .class_ 26), (1, u "jdk/internal/util/Preconditions"), (6, u "checkIndex"), (21, .class_ 56), (0, u "jdk/internal/util/Preconditions$4"), (57, .class_ 115), (0, u "jdk/internal/util/Preconditions$1"), (7, u "SIOOBE_FORMATTER"), (0, u "Ljava/util/function/BiFunction;"), (0, .class_ 126), (0, u "jdk/internal/util/Preconditions$2"), (3, u "AIOOBE_FORMATTER"), (0, .class_ 132), (0, u "jdk/internal/util/Preconditions$3"), (3, u "IOOBE_FORMATTER"), (41, u "(IILjava/util/function/BiFunction;)I")] 15

def k4m0 : Method := { name := "<init>", desc := "()V", sig := { parameters := [], returnType := none }, accessFlags := 1, code := none }
def k4c1 : Code := { maxStack := 3, maxLocals := 3, code := jdk_41_method_11_code, exceptionTable := #[], attributes := #[] }
def k4m1 : Method := { name := "checkIndex", desc := "(IILjava/util/function/BiFunction;)I", sig := { parameters := [.int, .int, (.object "java/util/function/BiFunction")], returnType := some .int }, accessFlags := 9, code := some k4c1 }
/-- jdk/internal/util/Preconditions -/
def k4 : Class := { plain "jdk/internal/util/Preconditions" (some 0) with
  accessFlags := 33
  interfaces := #[]
  cf := some (fileOf pool4 24 #[.nestMembers #[55, 131, 125, 114]] #[{ accessFlags := 1, nameIndex := 5, descriptorIndex := 6, attributes := #[] }, { accessFlags := 9, nameIndex := 33, descriptorIndex := 178, attributes := #[] }] 33 2 #[] #[{ accessFlags := 25, nameIndex := 123, descriptorIndex := 124, attributes := #[] }, { accessFlags := 25, nameIndex := 130, descriptorIndex := 124, attributes := #[] }, { accessFlags := 25, nameIndex := 136, descriptorIndex := 124, attributes := #[] }])
  fields := #[{ name := "SIOOBE_FORMATTER", type := (.object "java/util/function/BiFunction"), accessFlags := 25, slot := 0, constantValue := 0 }, { name := "AIOOBE_FORMATTER", type := (.object "java/util/function/BiFunction"), accessFlags := 25, slot := 1, constantValue := 0 }, { name := "IOOBE_FORMATTER", type := (.object "java/util/function/BiFunction"), accessFlags := 25, slot := 2, constantValue := 0 }]
  methods := #[k4m0, k4m1]
  instanceTypes := #[]
  staticTypes := #[(.object "java/util/function/BiFunction"), (.object "java/util/function/BiFunction"), (.object "java/util/function/BiFunction")]
  resolved := Array.replicate 194 none
  statics := none }

def pool5 : Array CpInfo := pool [(1, u "java/lang/Cloneable"), (0, .class_ 1), (0, u "java/lang/Object"), (0, .class_ 3)] 3

/-- java/lang/Cloneable -/
def k5 : Class := { plain "java/lang/Cloneable" (some 0) with
  accessFlags := 1537
  interfaces := #[]
  cf := some (fileOf pool5 2 #[] #[] 1537 4 #[] #[])
  fields := #[]
  methods := #[]
  instanceTypes := #[]
  staticTypes := #[]
  resolved := Array.replicate 8 none
  statics := none }

def pool6 : Array CpInfo := pool [(1, u "java/io/Serializable"), (0, .class_ 1), (0, u "java/lang/Object"), (0, .class_ 3)] 3

/-- java/io/Serializable -/
def k6 : Class := { plain "java/io/Serializable" (some 0) with
  accessFlags := 1537
  interfaces := #[]
  cf := some (fileOf pool6 2 #[] #[] 1537 4 #[] #[])
  fields := #[]
  methods := #[]
  instanceTypes := #[]
  staticTypes := #[]
  resolved := Array.replicate 8 none
  statics := none }

/-- the primitive byte -/
def k7 : Class := { plain "byte" none with kind := .primitive 'B', accessFlags := 0x411 }
/-- [B -/
def k8 : Class := { plain "[B" (some 0) with kind := .array 7 .byte, interfaces := #[5, 6], accessFlags := 1041 }

/-- the primitive int -/
def k9 : Class := { plain "int" none with kind := .primitive 'I', accessFlags := 0x411 }
/-- [I -/
def k10 : Class := { plain "[I" (some 0) with kind := .array 9 .int, interfaces := #[5, 6], accessFlags := 1041 }

/-- the primitive long -/
def k11 : Class := { plain "long" none with kind := .primitive 'J', accessFlags := 0x411 }
/-- [J -/
def k12 : Class := { plain "[J" (some 0) with kind := .array 11 .long, interfaces := #[5, 6], accessFlags := 1041 }

def heap : Heap := #[]
def classes : Array Class := #[k0, k1, k2, k3, k4, k5, k6, k7, k8, k9, k10, k11, k12]
def interned : List (Array UInt16 × Addr) := []
def slotsUsed : Nat := 0
def theMethod : MethodId := ⟨1, 1⟩
def args0 : Array Value := #[.int 10, .int 17, .int 24, .int 31]
def aboutOver (below : List Frame) : State where
  vm := { classes := classes, interned := interned.toArray }
  heap := heap
  slotsUsed := slotsUsed
  threads := #[{ frames := .invoking theMethod args0 :: below }]
def below0 : List Frame := [.native { method := ⟨0, 0⟩, args := #[] }]
def about1 : State := aboutOver below0
def p0 : Program := .bare "" "" ""
def e0 : Env := launch0.env 0 0 0
theorem w_frames : about1.frames = Frame.invoking theMethod args0 :: below0 := rfl
set_option maxRecDepth 65536 in
theorem w_args : argsFit about1.vm theMethod args0 = true := by decide +kernel
set_option maxRecDepth 65536 in
theorem w_heap : heapFits about1 = true := by decide +kernel
set_option maxRecDepth 65536 in
theorem w_runnable : about1.curStatus? = some .runnable := by decide +kernel
set_option maxRecDepth 65536 in
theorem w_alone : about1.alone = true := by decide +kernel
set_option maxRecDepth 65536 in
theorem w_named : about1.methodNamed? x = some theMethod := by decide +kernel
set_option maxRecDepth 65536 in
theorem w_hears : about1.hears theMethod below0 = true := by decide +kernel
set_option maxRecDepth 65536 in
theorem w_ripe : about1.ripe theMethod args0 below0 = true := by decide +kernel
theorem w_running : about1.status = .running := rfl
set_option maxRecDepth 65536 in
theorem w_room : about1.hasRoom e0.platform room_1 = true :=
  launch0.hasRoom_least _ room_1 (by decide +kernel) (by decide +kernel) (by decide +kernel) (by decide +kernel) (by decide +kernel) (by decide +kernel)
theorem allAtoms_all (ts : List Jvm.Cond) (a : Array Jvm.Value) (st : Jvm.State) : (allAtoms ts).before a st = ts.all (fun c => c.before a st) := by
  induction ts with
  | nil => rfl
  | cons c t ih =>
    show (Jvm.Cond.and c (allAtoms t)).before a st = _
    rw [Jvm.Cond.before_and, ih, List.all_cons]
def words1 : List Jvm.Cond := Jvm.Cond.code x code maxLocals ret :: tables_1
/-- a 'code' word, met by the world's own term for the bytes: nothing is compared byte by byte -/
theorem code_word {y : MethodName} {bytes : ByteArray} {mx : Nat} {rt : Option FieldType} {a : Array Value} {s : State} {m : MethodId} {meth : Method} {c : Code} (h1 : s.methodNamed? y = some m) (h2 : s.vm.method? m = some meth) (h3 : meth.code = some c) (h4 : c.code = bytes)
    (h5 : (c.maxLocals == mx && c.exceptionTable.isEmpty && decide (c.maxStack ≤ mostOperands) && decide (meth.sig.returnType = rt) && !meth.locks && decide (parseMethodDescriptor y.desc = some meth.sig)) = true) : (Jvm.Cond.code y bytes mx rt).before a s = true := by
  simp only [Bool.and_eq_true, beq_iff_eq, Bool.not_eq_true', decide_eq_true_eq] at h5
  obtain ⟨⟨⟨⟨⟨g1, g2⟩, g3⟩, g4⟩, g5⟩, g6⟩ := h5
  simp [Cond.before, Cond.holds, Cond.value, h1, h2, h3, h4, g1, g2, g3, g4, g5, g6]
def isCode : Jvm.Cond → Bool
  | .code _ _ _ _ => true
  | _ => false
theorem all_split {L : List Jvm.Cond} {P : Jvm.Cond → Bool} (h1 : L.all (fun c => isCode c || P c) = true) (h2 : ∀ c ∈ L.filter isCode, P c = true) : L.all P = true := by
  refine List.all_eq_true.mpr fun c hc => ?_
  have h := List.all_eq_true.mp h1 c hc
  rcases Bool.eq_false_or_eq_true (isCode c) with hi | hi
  · exact h2 c (List.mem_filter.mpr ⟨hc, hi⟩)
  · simpa [hi] using h
set_option maxRecDepth 65536 in
theorem w_c0 : (Jvm.Cond.code x code maxLocals ret).before args0 about1 = true := code_word (m := ⟨1, 1⟩) (meth := k1m1) (c := k1c1) (by decide +kernel) rfl rfl rfl (by decide +kernel)
set_option maxRecDepth 65536 in
theorem w_c1 : (Jvm.Cond.code ({ cls := "com/example/poset/poset/core/Marking", name := "of", desc := "([I)Lcom/example/poset/poset/core/Marking;" } : Jvm.MethodName) prog_47_method_2_code (7 : Nat) (Option.some (Jvm.ClassFile.FieldType.object "com/example/poset/poset/core/Marking"))).before args0 about1 = true := code_word (m := ⟨2, 1⟩) (meth := k2m1) (c := k2c1) (by decide +kernel) rfl rfl rfl (by decide +kernel)
set_option maxRecDepth 65536 in
theorem w_c2 : (Jvm.Cond.code ({ cls := "com/example/poset/poset/core/Marking", name := "put", desc := "([JZIIJ)V" } : Jvm.MethodName) prog_47_method_14_code (6 : Nat) (Option.none : Option Jvm.ClassFile.FieldType)).before args0 about1 = true := code_word (m := ⟨2, 8⟩) (meth := k2m8) (c := k2c8) (by decide +kernel) rfl rfl rfl (by decide +kernel)
set_option maxRecDepth 65536 in
theorem w_c3 : (Jvm.Cond.code ({ cls := "com/example/poset/poset/core/Marking", name := "mix", desc := "(JJ)J" } : Jvm.MethodName) prog_47_method_17_code (6 : Nat) (Option.some Jvm.ClassFile.FieldType.long)).before args0 about1 = true := code_word (m := ⟨2, 10⟩) (meth := k2m10) (c := k2c10) (by decide +kernel) rfl rfl rfl (by decide +kernel)
set_option maxRecDepth 65536 in
theorem w_c4 : (Jvm.Cond.code ({ cls := "com/example/poset/poset/core/Marking", name := "<init>", desc := "(I[JZJ)V" } : Jvm.MethodName) prog_47_method_1_code (6 : Nat) (Option.none : Option Jvm.ClassFile.FieldType)).before args0 about1 = true := code_word (m := ⟨2, 0⟩) (meth := k2m0) (c := k2c0) (by decide +kernel) rfl rfl rfl (by decide +kernel)
set_option maxRecDepth 65536 in
theorem w_c5 : (Jvm.Cond.code ({ cls := "java/lang/Object", name := "<init>", desc := "()V" } : Jvm.MethodName) object_method_1_code (1 : Nat) (Option.none : Option Jvm.ClassFile.FieldType)).before args0 about1 = true := code_word (m := ⟨0, 0⟩) (meth := k0m0) (c := k0c0) (by decide +kernel) rfl rfl rfl (by decide +kernel)
set_option maxRecDepth 65536 in
theorem w_c6 : (Jvm.Cond.code ({ cls := "com/example/poset/poset/core/Marking", name := "size", desc := "()I" } : Jvm.MethodName) prog_47_method_4_code (1 : Nat) (Option.some Jvm.ClassFile.FieldType.int)).before args0 about1 = true := code_word (m := ⟨2, 2⟩) (meth := k2m2) (c := k2c2) (by decide +kernel) rfl rfl rfl (by decide +kernel)
set_option maxRecDepth 65536 in
theorem w_c7 : (Jvm.Cond.code ({ cls := "com/example/poset/poset/core/Marking", name := "markedCount", desc := "()I" } : Jvm.MethodName) prog_47_method_6_code (1 : Nat) (Option.some Jvm.ClassFile.FieldType.int)).before args0 about1 = true := code_word (m := ⟨2, 4⟩) (meth := k2m4) (c := k2c4) (by decide +kernel) rfl rfl rfl (by decide +kernel)
set_option maxRecDepth 65536 in
theorem w_c8 : (Jvm.Cond.code ({ cls := "com/example/poset/poset/core/Marking", name := "tokens", desc := "(I)J" } : Jvm.MethodName) prog_47_method_5_code (3 : Nat) (Option.some Jvm.ClassFile.FieldType.long)).before args0 about1 = true := code_word (m := ⟨2, 3⟩) (meth := k2m3) (c := k2c3) (by decide +kernel) rfl rfl rfl (by decide +kernel)
set_option maxRecDepth 65536 in
theorem w_c9 : (Jvm.Cond.code ({ cls := "java/util/Objects", name := "checkIndex", desc := "(II)I" } : Jvm.MethodName) jdk_31_method_17_code (2 : Nat) (Option.some Jvm.ClassFile.FieldType.int)).before args0 about1 = true := code_word (m := ⟨3, 1⟩) (meth := k3m1) (c := k3c1) (by decide +kernel) rfl rfl rfl (by decide +kernel)
set_option maxRecDepth 65536 in
theorem w_c10 : (Jvm.Cond.code ({ cls := "jdk/internal/util/Preconditions", name := "checkIndex", desc := "(IILjava/util/function/BiFunction;)I" } : Jvm.MethodName) jdk_41_method_11_code (3 : Nat) (Option.some Jvm.ClassFile.FieldType.int)).before args0 about1 = true := code_word (m := ⟨4, 1⟩) (meth := k4m1) (c := k4c1) (by decide +kernel) rfl rfl rfl (by decide +kernel)
set_option maxRecDepth 65536 in
theorem w_c11 : (Jvm.Cond.code ({ cls := "com/example/poset/poset/core/Marking", name := "find", desc := "(II)I" } : Jvm.MethodName) prog_47_method_16_code (7 : Nat) (Option.some Jvm.ClassFile.FieldType.int)).before args0 about1 = true := code_word (m := ⟨2, 9⟩) (meth := k2m9) (c := k2c9) (by decide +kernel) rfl rfl rfl (by decide +kernel)
set_option maxRecDepth 65536 in
theorem w_c12 : (Jvm.Cond.code ({ cls := "com/example/poset/poset/core/Marking", name := "placeAt", desc := "(I)I" } : Jvm.MethodName) prog_47_method_11_code (2 : Nat) (Option.some Jvm.ClassFile.FieldType.int)).before args0 about1 = true := code_word (m := ⟨2, 6⟩) (meth := k2m6) (c := k2c6) (by decide +kernel) rfl rfl rfl (by decide +kernel)
set_option maxRecDepth 65536 in
theorem w_c13 : (Jvm.Cond.code ({ cls := "com/example/poset/poset/core/Marking", name := "countAt", desc := "(I)J" } : Jvm.MethodName) prog_47_method_12_code (2 : Nat) (Option.some Jvm.ClassFile.FieldType.long)).before args0 about1 = true := code_word (m := ⟨2, 7⟩) (meth := k2m7) (c := k2c7) (by decide +kernel) rfl rfl rfl (by decide +kernel)
set_option maxRecDepth 65536 in
theorem w_c14 : (Jvm.Cond.code ({ cls := "com/example/poset/poset/core/Marking", name := "markedPlace", desc := "(I)I" } : Jvm.MethodName) prog_47_method_7_code (2 : Nat) (Option.some Jvm.ClassFile.FieldType.int)).before args0 about1 = true := code_word (m := ⟨2, 5⟩) (meth := k2m5) (c := k2c5) (by decide +kernel) rfl rfl rfl (by decide +kernel)
def codes1 : List Jvm.Cond := [Jvm.Cond.code x code maxLocals ret, Jvm.Cond.code ({ cls := "com/example/poset/poset/core/Marking", name := "of", desc := "([I)Lcom/example/poset/poset/core/Marking;" } : Jvm.MethodName) prog_47_method_2_code (7 : Nat) (Option.some (Jvm.ClassFile.FieldType.object "com/example/poset/poset/core/Marking")), Jvm.Cond.code ({ cls := "com/example/poset/poset/core/Marking", name := "put", desc := "([JZIIJ)V" } : Jvm.MethodName) prog_47_method_14_code (6 : Nat) (Option.none : Option Jvm.ClassFile.FieldType), Jvm.Cond.code ({ cls := "com/example/poset/poset/core/Marking", name := "mix", desc := "(JJ)J" } : Jvm.MethodName) prog_47_method_17_code (6 : Nat) (Option.some Jvm.ClassFile.FieldType.long), Jvm.Cond.code ({ cls := "com/example/poset/poset/core/Marking", name := "<init>", desc := "(I[JZJ)V" } : Jvm.MethodName) prog_47_method_1_code (6 : Nat) (Option.none : Option Jvm.ClassFile.FieldType), Jvm.Cond.code ({ cls := "java/lang/Object", name := "<init>", desc := "()V" } : Jvm.MethodName) object_method_1_code (1 : Nat) (Option.none : Option Jvm.ClassFile.FieldType), Jvm.Cond.code ({ cls := "com/example/poset/poset/core/Marking", name := "size", desc := "()I" } : Jvm.MethodName) prog_47_method_4_code (1 : Nat) (Option.some Jvm.ClassFile.FieldType.int), Jvm.Cond.code ({ cls := "com/example/poset/poset/core/Marking", name := "markedCount", desc := "()I" } : Jvm.MethodName) prog_47_method_6_code (1 : Nat) (Option.some Jvm.ClassFile.FieldType.int), Jvm.Cond.code ({ cls := "com/example/poset/poset/core/Marking", name := "tokens", desc := "(I)J" } : Jvm.MethodName) prog_47_method_5_code (3 : Nat) (Option.some Jvm.ClassFile.FieldType.long), Jvm.Cond.code ({ cls := "java/util/Objects", name := "checkIndex", desc := "(II)I" } : Jvm.MethodName) jdk_31_method_17_code (2 : Nat) (Option.some Jvm.ClassFile.FieldType.int), Jvm.Cond.code ({ cls := "jdk/internal/util/Preconditions", name := "checkIndex", desc := "(IILjava/util/function/BiFunction;)I" } : Jvm.MethodName) jdk_41_method_11_code (3 : Nat) (Option.some Jvm.ClassFile.FieldType.int), Jvm.Cond.code ({ cls := "com/example/poset/poset/core/Marking", name := "find", desc := "(II)I" } : Jvm.MethodName) prog_47_method_16_code (7 : Nat) (Option.some Jvm.ClassFile.FieldType.int), Jvm.Cond.code ({ cls := "com/example/poset/poset/core/Marking", name := "placeAt", desc := "(I)I" } : Jvm.MethodName) prog_47_method_11_code (2 : Nat) (Option.some Jvm.ClassFile.FieldType.int), Jvm.Cond.code ({ cls := "com/example/poset/poset/core/Marking", name := "countAt", desc := "(I)J" } : Jvm.MethodName) prog_47_method_12_code (2 : Nat) (Option.some Jvm.ClassFile.FieldType.long), Jvm.Cond.code ({ cls := "com/example/poset/poset/core/Marking", name := "markedPlace", desc := "(I)I" } : Jvm.MethodName) prog_47_method_7_code (2 : Nat) (Option.some Jvm.ClassFile.FieldType.int)]
set_option maxRecDepth 65536 in
theorem codes_eq : words1.filter isCode = codes1 := rfl
theorem w_codes : ∀ c ∈ words1.filter isCode, c.before args0 about1 = true := by
  rw [codes_eq]
  intro c hc
  simp only [codes1, List.mem_cons, List.not_mem_nil, or_false] at hc
  rcases hc with rfl | rfl | rfl | rfl | rfl | rfl | rfl | rfl | rfl | rfl | rfl | rfl | rfl | rfl | rfl
  · exact w_c0
  · exact w_c1
  · exact w_c2
  · exact w_c3
  · exact w_c4
  · exact w_c5
  · exact w_c6
  · exact w_c7
  · exact w_c8
  · exact w_c9
  · exact w_c10
  · exact w_c11
  · exact w_c12
  · exact w_c13
  · exact w_c14
set_option maxRecDepth 65536 in
theorem w_t1 : (words1.take 24).all (fun c => isCode c || c.before args0 about1) = true := by decide +kernel
set_option maxRecDepth 65536 in
theorem w_t2 : ((words1.drop 24).take 24).all (fun c => isCode c || c.before args0 about1) = true := by decide +kernel
set_option maxRecDepth 65536 in
theorem w_t3 : (((words1.drop 24).drop 24).take 24).all (fun c => isCode c || c.before args0 about1) = true := by decide +kernel
set_option maxRecDepth 65536 in
theorem w_t4 : (((words1.drop 24).drop 24).drop 24).all (fun c => isCode c || c.before args0 about1) = true := by decide +kernel
theorem w_tables : (allAtoms (Jvm.Cond.code x code maxLocals ret :: tables_1)).before args0 about1 = true := by
  rw [allAtoms_all]
  show words1.all (fun c => c.before args0 about1) = true
  refine all_split ?_ w_codes
  rw [← List.take_append_drop 24 words1, List.all_append, w_t1, ← List.take_append_drop 24 (words1.drop 24), List.all_append, w_t2, ← List.take_append_drop 24 ((words1.drop 24).drop 24), List.all_append, w_t3, w_t4]
  rfl
set_option maxRecDepth 65536 in
theorem w_case : (Jvm.Cond.and given_1 narrow_1).before args0 about1 = true := by decide +kernel
theorem w_applies : (headSpec (Jvm.Cond.code x code maxLocals ret :: tables_1) room_1).applies x e0.platform about1 = true :=
  (Spec.applies_iff w_frames).mpr ⟨w_running, w_runnable, w_alone, w_named, w_hears, w_ripe, w_room, w_tables⟩
theorem atStart : AtStart classFile x code maxLocals ret World_1 tables_1 room_1 Calls_1 rest_1 Pre_1 launch0 p0 e0 about1 theMethod args0 below0 :=
  ⟨lists_1, trivial, launch0.admits_env _ _ _, launch0.least_env, fairChoices_fair.cas, fairChoices_fair.clock, w_frames, w_args, w_heap, w_applies, trivial, trivial, w_case⟩
end start1
theorem witness_1 : WitnessClaimed_1 := ⟨start1.p0, start1.e0, start1.about1, start1.theMethod, start1.args0, start1.below0, start1.atStart⟩
end Jvm.Pilot.@@N@@
