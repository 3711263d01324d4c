import JvmDerived
import JvmDerived.Pilot.@@N@@Statement
import JvmDerived.Pilot.@@N@@Code
set_option linter.unusedVariables false
set_option linter.unusedSimpArgs false
namespace Jvm.Pilot.@@N@@
open Jvm Jvm.ClassFile Sem Op Lib Jvm.Free Jvm.Stand Jvm.LawKit Jvm.RoadKit Bundle Jvm.Pilot.@@N@@.Jvm.D
section OwnLayer
/-- the run from A ends, and P holds of how it ends -/
def own_Ends (tb : Tables) (e : Env) (below : List Frame) (P : Outcome → State → Prop) (A : State) : Prop :=
  ∃ s₂ o, Steps tb e below A s₂ ∧ s₂.status = .running ∧ Ended s₂ below o ∧ P o s₂
theorem own_st {tb : Tables} {e : Env} {below : List Frame} {P : Outcome → State → Prop} {A B : State} (h : ∀ t, Steps tb e below B t → Steps tb e below A t) (k : own_Ends tb e below P B) : own_Ends tb e below P A := by
  obtain ⟨s2, o, h1, h2⟩ := k
  exact ⟨s2, o, h _ h1, h2⟩
/-- where the walk stands: the state T, its heap h, k cells and n slots made, nothing below n0 written -/
def own_S (p : Program) (l : Launch) (e : Env) (R : Room) (s : State) (m : MethodId) (args : Array Value) (below : List Frame) (meth : Method) (c : Code) (n0 : Nat) (T : State) (h : Heap) (k n : Nat) : Prop :=
  ∃ locs, Stand p l e R s m args below meth c T locs k n ∧ T.heap = h ∧ Fr n0 locs
def own_P (s : State) (n0 : Nat) (Qf : Option Value → Heap → Prop) (C S : Nat) (o : Outcome) (U' : State) : Prop := ∃ v L, o = .returned v ∧ (Fr n0 L ∧ Qf v U'.heap) ∧ FrameEnd s o U' L C S
/-- a body's contract: called with 'as' at the heap h0 it returns, and Qf holds of what it returns and of the heap -/
def own_Con (l : Launch) (Z : State) (y : MethodName) (bytes : ByteArray) (maxL : Nat) (ret : Option FieldType) (ws : List Jvm.Cond) (rm : Room) (as' : Array Value) (h0 : Heap) (n0 : Nat) (Qf : Option Value → Heap → Prop) : Prop :=
  MetFree l y (head1 (Jvm.Cond.code y bytes maxL ret :: ws) rm) (fun a U => a = as' ∧ Z.Warmed39 U.vm ∧ U.heap = h0) (fun _ _ _ _ _ => True) (fun _ U o U' => ∃ v L, o = .returned v ∧ (Fr n0 L ∧ Qf v U'.heap) ∧ FrameEnd U o U' L rm.cells rm.slots)
variable {p : Program} {l : Launch} {e : Env} {R : Room} {s : State} {m : MethodId} {args : Array Value} {below : List Frame} {meth : Method} {c : Code} {n0 : Nat} {T : State} {h : Heap} {k n : Nat} {Z : State} {a0 : Array Value} {P : Outcome → State → Prop}
theorem own_here (Y : own_S p l e R s m args below meth c n0 T h k n) : At T m c below := by
  obtain ⟨_, X, -⟩ := Y
  exact X.here
theorem own_body {y : MethodName} {bytes : ByteArray} {maxL : Nat} {ret : Option FieldType} {ws : List Jvm.Cond} {rm : Room} {as' : Array Value} {h0 : Heap} {Qf : Option Value → Heap → Prop} (hpn : plainFor y = true)
    (hbody : ∀ (p : Program) (e : Env) (s : State) (m : MethodId) (below : List Frame) (meth : Method) (c : Code) (T : State), p.tables.exec = Jvm.exec → Z.Warmed39 s.vm → c.code = bytes → c.maxLocals = maxL → s.vm.findClass y.cls = some m.cls → meth.name = y.name → meth.sig.returnType = ret → meth.locks = false →
      own_S p l e rm s m as' below meth c n0 T h0 0 0 → own_Ends p.tables e below (own_P s n0 Qf rm.cells rm.slots) (T.setTop (entryFrame m as' maxL))) : own_Con l Z y bytes maxL ret ws rm as' h0 n0 Qf := by
  refine MetFree.of_bodySF hpn hisR ?_
  intro p e s m args below meth c s₁ Bd hml0 hP hK
  obtain ⟨rfl, hZ, hh⟩ := hP
  have hown : s.vm.findClass y.cls = some m.cls := findClass_of_methodNamed Bd.named
  have hnm := (name_of_methodNamed Bd.named Bd.method).1
  exact hbody p e s m below meth c s₁ Bd.exec hZ Bd.bytes hml0 hown hnm Bd.returns Bd.notSynchronized ⟨[], Stand.of_body Bd, by rw [← hh, Bd.state]; rfl, Fr.nil n0⟩
theorem own_leave (Y : own_S p l e R s m args below meth c n0 T h k n) (hlk : meth.locks = false) {v : Option Value} (hv : meth.sig.returnType = none → v = none) {Qf : Option Value → Heap → Prop} {C S : Nat} (hk : k ≤ C) (hn : n ≤ S) (hQ : Qf v h) {A : State}
    (st : ∀ (locs : List Loc) (fs : List Frame), Stand p l e R s m args below meth c T locs k n → (∀ (f : JFrame) (acts : List Action), f.method = m → f.locked = none → f.entered = [] → (doReturn e (T.setTop f) acts v).1 = T.setFrames fs) → Steps p.tables e below A (T.setFrames fs)) : own_Ends p.tables e below (own_P s n0 Qf C S) A := by
  obtain ⟨locs, X, e1, N⟩ := Y
  obtain ⟨fs, hr, hrun, hended, hW, hsame⟩ := X.leave hv hlk
  refine ⟨_, _, st locs fs X hr, hrun, hended, v, locs, rfl, ⟨N, ?_⟩, ⟨_, rfl⟩, hW, hsame.mono hk hn⟩
  show Qf v T.heap
  rw [e1]; exact hQ
theorem own_ret (Y : own_S p l e R s m args below meth c n0 T h k n) (hx : p.tables.exec = Jvm.exec) (hlk : meth.locks = false) {pc : Nat} {Ls : Array Slot} {w : Value} {t : FieldType} {i : Instr} {rest : List Value} (hret : meth.sig.returnType = some t) (hd : decode c.code pc = .ok (i, 1)) (hn : narrow t w = w)
    (hi : (i = .ireturn ∧ (t = .int ∨ t = .boolean ∨ t = .byte ∨ t = .char ∨ t = .short) ∧ ∃ z, w = .int z) ∨ (i = .lreturn ∧ t = .long ∧ ∃ z, w = .long z) ∨ (i = .dreturn ∧ t = .double ∧ ∃ z, w = .double z) ∨ (i = .freturn ∧ t = .float ∧ ∃ z, w = .float z) ∨ (i = .areturn ∧ t.isReference = true ∧ w.isRef = true))
    {Qf : Option Value → Heap → Prop} {C S : Nat} (hk : k ≤ C) (hs : n ≤ S) (hQ : Qf (some w) h) : own_Ends p.tables e below (own_P s n0 Qf C S) (T.setTop (mkF m pc Ls (w :: rest))) :=
  own_leave Y hlk (fun q => by rw [hret] at q; cases q) hk hs hQ fun _ _ X hr => retOut X hx hret hn hi hd hr
theorem own_retI (Y : own_S p l e R s m args below meth c n0 T h k n) (hx : p.tables.exec = Jvm.exec) (hlk : meth.locks = false) {pc : Nat} {Ls : Array Slot} {z : Int32} {rest : List Value} (hret : meth.sig.returnType = some .int) (hd : decode c.code pc = .ok (.ireturn, 1))
    {Qf : Option Value → Heap → Prop} {C S : Nat} (hk : k ≤ C) (hs : n ≤ S) (hQ : Qf (some (.int z)) h) : own_Ends p.tables e below (own_P s n0 Qf C S) (T.setTop (mkF m pc Ls (.int z :: rest))) :=
  own_ret Y hx hlk hret hd rfl (Or.inl ⟨rfl, Or.inl rfl, _, rfl⟩) hk hs hQ
theorem own_retN (Y : own_S p l e R s m args below meth c n0 T h k n) (hx : p.tables.exec = Jvm.exec) (hlk : meth.locks = false) {pc : Nat} {Ls : Array Slot} {z : Int32} {t : FieldType} {rest : List Value} (hret : meth.sig.returnType = some t) (ht : t = .boolean ∨ t = .byte ∨ t = .char ∨ t = .short) (hd : decode c.code pc = .ok (.ireturn, 1))
    {Qf : Option Value → Heap → Prop} {C S : Nat} (hk : k ≤ C) (hs : n ≤ S) (hQ : Qf (some (.int (nar t z))) h) : own_Ends p.tables e below (own_P s n0 Qf C S) (T.setTop (mkF m pc Ls (.int z :: rest))) :=
  own_leave Y hlk (fun q => by rw [hret] at q; cases q) hk hs hQ fun _ _ X hr => retN X hx hret ht hd hr
theorem own_retJ (Y : own_S p l e R s m args below meth c n0 T h k n) (hx : p.tables.exec = Jvm.exec) (hlk : meth.locks = false) {pc : Nat} {Ls : Array Slot} {z : Int64} {rest : List Value} (hret : meth.sig.returnType = some .long) (hd : decode c.code pc = .ok (.lreturn, 1))
    {Qf : Option Value → Heap → Prop} {C S : Nat} (hk : k ≤ C) (hs : n ≤ S) (hQ : Qf (some (.long z)) h) : own_Ends p.tables e below (own_P s n0 Qf C S) (T.setTop (mkF m pc Ls (.long z :: rest))) :=
  own_ret Y hx hlk hret hd rfl (Or.inr (Or.inl ⟨rfl, rfl, _, rfl⟩)) hk hs hQ
theorem own_retA (Y : own_S p l e R s m args below meth c n0 T h k n) (hx : p.tables.exec = Jvm.exec) (hlk : meth.locks = false) {pc : Nat} {Ls : Array Slot} {w : Value} {t : FieldType} {rest : List Value} (hret : meth.sig.returnType = some t) (ht : t.isReference = true) (hw : w.isRef = true) (hn : narrow t w = w) (hd : decode c.code pc = .ok (.areturn, 1))
    {Qf : Option Value → Heap → Prop} {C S : Nat} (hk : k ≤ C) (hs : n ≤ S) (hQ : Qf (some w) h) : own_Ends p.tables e below (own_P s n0 Qf C S) (T.setTop (mkF m pc Ls (w :: rest))) :=
  own_ret Y hx hlk hret hd hn (Or.inr (Or.inr (Or.inr (Or.inr ⟨rfl, ht, hw⟩)))) hk hs hQ
theorem own_retV (Y : own_S p l e R s m args below meth c n0 T h k n) (hx : p.tables.exec = Jvm.exec) (hlk : meth.locks = false) {pc : Nat} {Ls : Array Slot} (hret : meth.sig.returnType = none) (hd : decode c.code pc = .ok (.return_, 1))
    {Qf : Option Value → Heap → Prop} {C S : Nat} (hk : k ≤ C) (hs : n ≤ S) (hQ : Qf none h) : own_Ends p.tables e below (own_P s n0 Qf C S) (T.setTop (mkF m pc Ls [])) :=
  own_leave Y hlk (fun _ => rfl) hk hs hQ fun _ _ X hr => X.returnOut hx hret hd hr
/-! fields -/
theorem own_getF (Y : own_S p l e R s m args below meth c n0 T h k n) (hx : p.tables.exec = Jvm.exec) (hZ : Z.Warmed39 s.vm) {own R0 O f d host : String} {index : Nat} (hown : s.vm.findClass own = some m.cls) (w : (Jvm.Cond.fieldLink own index R0 f d).before a0 Z = true ∨ (Jvm.Cond.fieldLinkNest own index R0 f d host).before a0 Z = true) (via : Via Z R0 O f d) {a : Addr} {v : Value} (F : Fld Z h a O f d v)
    {g : JFrame} (hg : g.method = m) {rest : List Value} (hs : g.stack = .ref a :: rest) (hd : decode c.code g.pc = .ok (.getfield index, 3)) (K : ∀ T', own_S p l e R s m args below meth c n0 T' h k n → own_Ends p.tables e below P (T'.setTop { g with pc := g.pc + 3, stack := v :: rest })) : own_Ends p.tables e below P (T.setTop g) := by
  obtain ⟨locs, X, e1, N⟩ := Y
  obtain ⟨T', X', e', st⟩ := getF X hx hZ hown w via e1 F hg hs hd
  exact own_st st (K T' ⟨locs, X', e', N⟩)
theorem own_putF (Y : own_S p l e R s m args below meth c n0 T h k n) (hx : p.tables.exec = Jvm.exec) (hZ : Z.Warmed39 s.vm) {own R0 O f d host C : String} {index kk : Nat} {ty : FieldType} (hown : s.vm.findClass own = some m.cls) (w : (Jvm.Cond.fieldLink own index R0 f d).before a0 Z = true ∨ (Jvm.Cond.fieldLinkNest own index R0 f d host).before a0 Z = true) (via : Via Z R0 O f d) {a : Addr} {v old : Value} (F : Fld Z h a O f d old) (E : Exa Z h a C)
    (L : (Jvm.Cond.lays C O f d).before a0 Z = true ∨ ((Jvm.Cond.laysFinal C O f d).before a0 Z = true ∧ own = O ∧ meth.name = "<init>")) (wi : (Jvm.Cond.instantiable C kk).before a0 Z = true) (ha : n0 ≤ a) (hty : parseFieldDescriptor d = some ty) (hn : narrow ty v = v) (hf : fits ty v = true) {g : JFrame} (hg : g.method = m) {rest : List Value} (hs : g.stack = v :: .ref a :: rest) (hd : decode c.code g.pc = .ok (.putfield index, 3))
    (K : ∀ T' h', own_S p l e R s m args below meth c n0 T' h' k n → Wr h h' a (Jvm.RoadKit.slotOf Z O f d) v → Fld Z h' a O f d v → own_Ends p.tables e below P (T'.setTop { g with pc := g.pc + 3, stack := rest })) : own_Ends p.tables e below P (T.setTop g) := by
  obtain ⟨locs, X, e1, N⟩ := Y
  obtain ⟨T', h', X', e', W, st⟩ := putF X hx hZ hown w via e1 F E L wi hty hn hf hg hs hd
  exact own_st st (K T' h' ⟨_, X', e', Fr.snoc X' N ha⟩ W (F.same W))
theorem own_putFN (Y : own_S p l e R s m args below meth c n0 T h k n) (hx : p.tables.exec = Jvm.exec) (hZ : Z.Warmed39 s.vm) {own R0 O f d C : String} {index kk : Nat} {ty : FieldType} (hown : s.vm.findClass own = some m.cls) (w : (Jvm.Cond.fieldLink own index R0 f d).before a0 Z = true) (via : Via Z R0 O f d) {a : Addr} {v v' old : Value} (F : Fld Z h a O f d old) (E : Exa Z h a C)
    (L : (Jvm.Cond.lays C O f d).before a0 Z = true ∨ ((Jvm.Cond.laysFinal C O f d).before a0 Z = true ∧ own = O ∧ meth.name = "<init>")) (wi : (Jvm.Cond.instantiable C kk).before a0 Z = true) (ha : n0 ≤ a) (hty : parseFieldDescriptor d = some ty) (hn : narrow ty v = v') (hf : fits ty v' = true) {g : JFrame} (hg : g.method = m) {rest : List Value} (hs : g.stack = v :: .ref a :: rest) (hd : decode c.code g.pc = .ok (.putfield index, 3))
    (K : ∀ T' h', own_S p l e R s m args below meth c n0 T' h' k n → Wr h h' a (Jvm.RoadKit.slotOf Z O f d) v' → Fld Z h' a O f d v' → own_Ends p.tables e below P (T'.setTop { g with pc := g.pc + 3, stack := rest })) : own_Ends p.tables e below P (T.setTop g) := by
  obtain ⟨locs, X, e1, N⟩ := Y
  obtain ⟨T', h', X', e', W, st⟩ := putFN X hx hZ hown w via e1 F E L wi hty hn hf hg hs hd
  exact own_st st (K T' h' ⟨_, X', e', Fr.snoc X' N ha⟩ W (F.same W))
theorem own_getS (Y : own_S p l e R s m args below meth c n0 T h k n) (hx : p.tables.exec = Jvm.exec) (hZ : Z.Warmed39 s.vm) {own R0 O f d host : String} {index : Nat} (hown : s.vm.findClass own = some m.cls) (w : (Jvm.Cond.fieldLink own index R0 f d).before a0 Z = true ∨ (Jvm.Cond.fieldLinkNest own index R0 f d host).before a0 Z = true) (via : Via Z R0 O f d) {v : Value} (F : Sta Z h O f d v)
    {g : JFrame} (hg : g.method = m) (hd : decode c.code g.pc = .ok (.getstatic index, 3)) (K : ∀ T', own_S p l e R s m args below meth c n0 T' h k n → own_Ends p.tables e below P (T'.setTop { g with pc := g.pc + 3, stack := v :: g.stack })) : own_Ends p.tables e below P (T.setTop g) := by
  obtain ⟨locs, X, e1, N⟩ := Y
  obtain ⟨T', X', e', st⟩ := getS2 X hx hZ hown w via e1 F hg hd
  exact own_st st (K T' ⟨locs, X', e', N⟩)
/-! new objects -/
theorem own_new (Y : own_S p l e R s m args below meth c n0 T h k n) (hx : p.tables.exec = Jvm.exec) (hZ : Z.Warmed39 s.vm) {own C : String} {index nn : Nat} (hown : s.vm.findClass own = some m.cls) (w : (Jvm.Cond.classLink own index C).before a0 Z = true) (wi : (Jvm.Cond.instantiable C nn).before a0 Z = true) (wz : (Jvm.Cond.initialized C).before a0 Z = true)
    {g : JFrame} (hg : g.method = m) (hd : decode c.code g.pc = .ok (.new index, 3)) (hc : k + 1 ≤ R.cells) (hl : n + nn ≤ R.slots)
    (K : ∀ T' h' b, b = h.size → own_S p l e R s m args below meth c n0 T' h' (k + 1) (n + nn) → Ext h h' → Exa Z h' b C → (∀ (O nm d : String) (ty : FieldType), Laid Z a0 C O nm d → parseFieldDescriptor d = some ty → Fld Z h' b O nm d (defaultValue ty)) →
      own_Ends p.tables e below P (T'.setTop { g with pc := g.pc + 3, stack := .ref b :: g.stack })) : own_Ends p.tables e below P (T.setTop g) := by
  obtain ⟨locs, X, e1, N⟩ := Y
  obtain ⟨T', h', X', e', E, A, D, -, st⟩ := newO X hx hZ hown w wi wz e1 hg hd hc hl
  exact own_st st (K T' h' _ rfl ⟨locs, X', e', N⟩ E A (fun _ _ _ _ q r => D q r))
theorem own_initO (Y : own_S p l e R s m args below meth c n0 T h k n) (hx : p.tables.exec = Jvm.exec) (hZ : Z.Warmed39 s.vm) {own : String} {idx : Nat} (hown : s.vm.findClass own = some m.cls) (w1 : (Jvm.Cond.methodLink own idx Lib.objectInit).before a0 Z = true) (w2 : (Jvm.Cond.instanceMethod Lib.objectInit).before a0 Z = true) (w3 : (Jvm.Cond.code Lib.objectInit ⟨#[0xb1]⟩ 1 none).before a0 Z = true)
    {g : JFrame} (hg : g.method = m) (hsize : g.locals.size = c.maxLocals) {a : Addr} {rest : List Value} (hs : g.stack = .ref a :: rest) (hd : decode c.code g.pc = .ok (.invokespecial idx, 3)) (hf : 1 ≤ R.frames) {W : Nat} (hW : 2 * g.monitorRoom + (rest.map fun v => v.category).sum ≤ W) (hl : W + 12 ≤ R.locals)
    (K : ∀ T', own_S p l e R s m args below meth c n0 T' h k n → own_Ends p.tables e below P (T'.setTop { g with pc := g.pc + 3, stack := rest })) : own_Ends p.tables e below P (T.setTop g) := by
  obtain ⟨locs, X, e1, N⟩ := Y
  obtain ⟨T', X', e', st⟩ := initO X hx hZ hown w1 w2 w3 e1 hg hsize hs hd hf hW hl
  exact own_st st (K T' ⟨locs, X', e', N⟩)
/-! arrays: the cell's slots are the list vs -/
def own_A (Z : State) (h : Heap) (a : Addr) (ty : FieldType) (vs : List Value) : Prop := ∃ c : Cell, Arr Z h a c ty ∧ c.slots.toList = vs ∧ vs.length < 2 ^ 31
theorem own_A.lt {a : Addr} {ty : FieldType} {vs : List Value} (A : own_A Z h a ty vs) : a < h.size := by obtain ⟨c, A, -⟩ := A; exact A.lt
theorem own_A.ext {h' : Heap} {a : Addr} {ty : FieldType} {vs : List Value} (A : own_A Z h a ty vs) (E : Ext h h') : own_A Z h' a ty vs := by obtain ⟨c, A, r⟩ := A; exact ⟨c, A.ext E, r⟩
theorem own_A.other {h' : Heap} {a b : Addr} {sl : Nat} {v : Value} {ty : FieldType} {vs : List Value} (A : own_A Z h a ty vs) (W : Wr h h' b sl v) (q : a ≠ b) : own_A Z h' a ty vs := by obtain ⟨c, A, r⟩ := A; exact ⟨c, A.other W q, r⟩
theorem own_A.keep {h' : Heap} {a : Addr} {ws : List Addr} {ty : FieldType} {vs : List Value} (A : own_A Z h a ty vs) (K : Keep h h' ws) (q : a ∉ ws) : own_A Z h' a ty vs := by obtain ⟨c, A, r⟩ := A; exact ⟨c, ⟨K.2.1 a c A.1 q, A.2⟩, r⟩
theorem own_sz {c : Cell} {vs : List Value} (q : c.slots.toList = vs) : c.slots.size = vs.length := by rw [← q]; simp
theorem own_in {c : Cell} {vs : List Value} {j : Int32} {i : Nat} (q : c.slots.toList = vs) (hj : ¬ j < 0) (hi : j.toNatClampNeg = i) (hl : i < vs.length) : ¬ (j < 0 ∨ c.slots.size ≤ j.toNatClampNeg) := by
  rw [own_sz q, hi]; intro z; rcases z with z | z
  · exact hj z
  · omega
theorem own_get {c : Cell} {vs : List Value} {j : Int32} {i : Nat} {v : Value} (q : c.slots.toList = vs) (hi : j.toNatClampNeg = i) (hv : vs[i]? = some v) : c.slots[j.toNatClampNeg]? = some v := by
  rw [hi, ← Array.getElem?_toList, q, hv]
theorem own_A.set {h' : Heap} {a : Addr} {ty : FieldType} {vs : List Value} {cl : Cell} {i : Nat} {v : Value} (A : Arr Z h a cl ty) (q : cl.slots.toList = vs) (hl : vs.length < 2 ^ 31) (W : Wr h h' a i v) : own_A Z h' a ty (vs.set i v) :=
  ⟨_, A.same W, by simp [Cell.setSlot, q], by simpa using hl⟩
theorem own_newP (Y : own_S p l e R s m args below meth c n0 T h k n) (hx : p.tables.exec = Jvm.exec) (hZ : Z.Warmed39 s.vm) {aty : ArrayType} (w : (Jvm.Cond.arrayClass (newarray.typeOf aty)).before a0 Z = true) {g : JFrame} (hg : g.method = m) (hd : decode c.code g.pc = .ok (.newarray aty, 2)) {z : Int32} {rest : List Value} (hs : g.stack = .int z :: rest)
    (hz : ¬ z < 0) {nz cap : Nat} (hn : z.toNatClampNeg = nz) (hcap : nz ≤ cap) (hb : cap * 8 ≤ 536870912) (hc : k + 1 ≤ R.cells) (hl : n + cap ≤ R.slots) {ty : FieldType} (hty : newarray.typeOf aty = ty)
    (K : ∀ T' h' b, b = h.size → own_S p l e R s m args below meth c n0 T' h' (k + 1) (n + cap) → Ext h h' → own_A Z h' b ty (List.replicate nz (defaultValue ty)) → own_Ends p.tables e below P (T'.setTop { g with pc := g.pc + 2, stack := .ref b :: rest })) : own_Ends p.tables e below P (T.setTop g) := by
  obtain ⟨locs, X, e1, N⟩ := Y
  subst hty
  obtain ⟨T', h', cA, X', e', E, A, st⟩ := newP X hx hZ w e1 hg hd hs hz (cap := cap) (by rw [hn]; exact hcap) hb hc hl
  refine own_st st (K T' h' _ rfl ⟨locs, X', e', N⟩ E ⟨_, A, ?_, ?_⟩)
  · simp [newA, hn]
  · simp; omega
theorem own_newR (Y : own_S p l e R s m args below meth c n0 T h k n) (hx : p.tables.exec = Jvm.exec) (hZ : Z.Warmed39 s.vm) {own C : String} {index : Nat} (hown : s.vm.findClass own = some m.cls) (w1 : (Jvm.Cond.classLink own index C).before a0 Z = true) (w2 : (Jvm.Cond.arrayOver (.object C)).before a0 Z = true) {g : JFrame} (hg : g.method = m) (hd : decode c.code g.pc = .ok (.anewarray index, 3)) {z : Int32} {rest : List Value} (hs : g.stack = .int z :: rest)
    (hz : ¬ z < 0) {nz cap : Nat} (hn : z.toNatClampNeg = nz) (hcap : nz ≤ cap) (hb : cap * 8 ≤ 536870912) (hc : k + 1 ≤ R.cells) (hl : n + cap ≤ R.slots)
    (K : ∀ T' h' b, b = h.size → own_S p l e R s m args below meth c n0 T' h' (k + 1) (n + cap) → Ext h h' → own_A Z h' b (.object C) (List.replicate nz .null) → own_Ends p.tables e below P (T'.setTop { g with pc := g.pc + 3, stack := .ref b :: rest })) : own_Ends p.tables e below P (T.setTop g) := by
  obtain ⟨locs, X, e1, N⟩ := Y
  obtain ⟨T', h', cA, X', e', E, A, O, st⟩ := newR X hx hZ hown w1 w2 e1 hg hd hs hz (cap := cap) (by rw [hn]; exact hcap) hb hc hl
  refine own_st st (K T' h' _ rfl ⟨locs, X', e', N⟩ E ⟨_, A, ?_, ?_⟩)
  · simp [newA, hn, defaultValue]
  · simp; omega
theorem own_mono (Y : own_S p l e R s m args below meth c n0 T h k n) {k' n' : Nat} (hk : k ≤ k') (hn : n ≤ n') : own_S p l e R s m args below meth c n0 T h k' n' := by
  obtain ⟨locs, X, r⟩ := Y
  exact ⟨locs, { X with same := X.same.mono hk hn }, r⟩
theorem own_stI (Y : own_S p l e R s m args below meth c n0 T h k n) (hx : p.tables.exec = Jvm.exec) (hZ : Z.Warmed39 s.vm) {a : Addr} {vs : List Value} (A : own_A Z h a .int vs) (ha : n0 ≤ a) {j x : Int32} {i : Nat} (hj : ¬ j < 0) (hi : j.toNatClampNeg = i) (hl : i < vs.length) {g : JFrame} (hg : g.method = m) {rest : List Value} (hs : g.stack = .int x :: .int j :: .ref a :: rest) (hd : decode c.code g.pc = .ok (.iastore, 1))
    (K : ∀ T' h', own_S p l e R s m args below meth c n0 T' h' k n → Wr h h' a i (.int x) → own_A Z h' a .int (vs.set i (.int x)) → own_Ends p.tables e below P (T'.setTop { g with pc := g.pc + 1, stack := rest })) : own_Ends p.tables e below P (T.setTop g) := by
  obtain ⟨locs, X, e1, N⟩ := Y
  obtain ⟨cl, A, q, r⟩ := A
  obtain ⟨T', h', X', e', W, st⟩ := stI X hx hZ e1 A (own_in q hj hi hl) hg hs hd
  have W' := W; rw [hi] at W'
  exact own_st st (K T' h' ⟨_, X', e', Fr.snoc X' N ha⟩ W' (own_A.set A q r W'))
theorem own_stJ (Y : own_S p l e R s m args below meth c n0 T h k n) (hx : p.tables.exec = Jvm.exec) (hZ : Z.Warmed39 s.vm) {a : Addr} {vs : List Value} (A : own_A Z h a .long vs) (ha : n0 ≤ a) {j : Int32} {x : Int64} {i : Nat} (hj : ¬ j < 0) (hi : j.toNatClampNeg = i) (hl : i < vs.length) {g : JFrame} (hg : g.method = m) {rest : List Value} (hs : g.stack = .long x :: .int j :: .ref a :: rest) (hd : decode c.code g.pc = .ok (.lastore, 1))
    (K : ∀ T' h', own_S p l e R s m args below meth c n0 T' h' k n → Wr h h' a i (.long x) → own_A Z h' a .long (vs.set i (.long x)) → own_Ends p.tables e below P (T'.setTop { g with pc := g.pc + 1, stack := rest })) : own_Ends p.tables e below P (T.setTop g) := by
  obtain ⟨locs, X, e1, N⟩ := Y
  obtain ⟨cl, A, q, r⟩ := A
  obtain ⟨T', h', X', e', W, st⟩ := stJ X hx hZ e1 A (own_in q hj hi hl) hg hs hd
  have W' := W; rw [hi] at W'
  exact own_st st (K T' h' ⟨_, X', e', Fr.snoc X' N ha⟩ W' (own_A.set A q r W'))
theorem own_stB (Y : own_S p l e R s m args below meth c n0 T h k n) (hx : p.tables.exec = Jvm.exec) (hZ : Z.Warmed39 s.vm) {a : Addr} {vs : List Value} (A : own_A Z h a .byte vs) (ha : n0 ≤ a) {j x : Int32} {i : Nat} (hj : ¬ j < 0) (hi : j.toNatClampNeg = i) (hl : i < vs.length) {g : JFrame} (hg : g.method = m) {rest : List Value} (hs : g.stack = .int x :: .int j :: .ref a :: rest) (hd : decode c.code g.pc = .ok (.bastore, 1))
    (K : ∀ T' h', own_S p l e R s m args below meth c n0 T' h' k n → Wr h h' a i (.int x.toInt8.toInt32) → own_A Z h' a .byte (vs.set i (.int x.toInt8.toInt32)) → own_Ends p.tables e below P (T'.setTop { g with pc := g.pc + 1, stack := rest })) : own_Ends p.tables e below P (T.setTop g) := by
  obtain ⟨locs, X, e1, N⟩ := Y
  obtain ⟨cl, A, q, r⟩ := A
  obtain ⟨T', h', X', e', W, st⟩ := stB X hx hZ e1 A (own_in q hj hi hl) hg hs hd
  have W' := W; rw [hi] at W'
  exact own_st st (K T' h' ⟨_, X', e', Fr.snoc X' N ha⟩ W' (own_A.set A q r W'))
theorem own_stC (Y : own_S p l e R s m args below meth c n0 T h k n) (hx : p.tables.exec = Jvm.exec) (hZ : Z.Warmed39 s.vm) {a : Addr} {vs : List Value} (A : own_A Z h a .char vs) (ha : n0 ≤ a) {j x : Int32} {i : Nat} (hj : ¬ j < 0) (hi : j.toNatClampNeg = i) (hl : i < vs.length) {g : JFrame} (hg : g.method = m) {rest : List Value} (hs : g.stack = .int x :: .int j :: .ref a :: rest) (hd : decode c.code g.pc = .ok (.castore, 1))
    (K : ∀ T' h', own_S p l e R s m args below meth c n0 T' h' k n → Wr h h' a i (.int x.toUInt32.toUInt16.toUInt32.toInt32) → own_A Z h' a .char (vs.set i (.int x.toUInt32.toUInt16.toUInt32.toInt32)) → own_Ends p.tables e below P (T'.setTop { g with pc := g.pc + 1, stack := rest })) : own_Ends p.tables e below P (T.setTop g) := by
  obtain ⟨locs, X, e1, N⟩ := Y
  obtain ⟨cl, A, q, r⟩ := A
  obtain ⟨T', h', X', e', W, st⟩ := stC X hx hZ e1 A (own_in q hj hi hl) hg hs hd
  have W' := W; rw [hi] at W'
  exact own_st st (K T' h' ⟨_, X', e', Fr.snoc X' N ha⟩ W' (own_A.set A q r W'))
theorem own_len (Y : own_S p l e R s m args below meth c n0 T h k n) (hx : p.tables.exec = Jvm.exec) (hZ : Z.Warmed39 s.vm) {a : Addr} {ty : FieldType} {vs : List Value} (A : own_A Z h a ty vs) {z : Int32} (hz : vs.length.toInt32 = z) {g : JFrame} (hg : g.method = m) {rest : List Value} (hs : g.stack = .ref a :: rest) (hd : decode c.code g.pc = .ok (.arraylength, 1))
    (K : own_Ends p.tables e below P (T.setTop { g with pc := g.pc + 1, stack := .int z :: rest })) : own_Ends p.tables e below P (T.setTop g) := by
  obtain ⟨locs, X, e1, N⟩ := Y
  obtain ⟨cl, A, q, r⟩ := A
  refine own_st (fun t => X.arraylength hx (by rw [e1]; exact A.1) (State.isArrayOf_alike hZ.alike A.2.1) hg hs hd t) ?_
  rw [own_sz q, hz]; exact K
theorem own_ldI (Y : own_S p l e R s m args below meth c n0 T h k n) (hx : p.tables.exec = Jvm.exec) (hZ : Z.Warmed39 s.vm) {a : Addr} {vs : List Value} (A : own_A Z h a .int vs) {j : Int32} {i : Nat} (hj : ¬ j < 0) (hi : j.toNatClampNeg = i) (hl : i < vs.length) {v : Value} (hv : vs[i]? = some v) {g : JFrame} (hg : g.method = m) {rest : List Value} (hs : g.stack = .int j :: .ref a :: rest) (hd : decode c.code g.pc = .ok (.iaload, 1))
    (K : own_Ends p.tables e below P (T.setTop { g with pc := g.pc + 1, stack := v :: rest })) : own_Ends p.tables e below P (T.setTop g) := by
  obtain ⟨locs, X, e1, N⟩ := Y
  obtain ⟨cl, A, q, r⟩ := A
  exact own_st (fun t => X.iaload hx (by rw [e1]; exact A.1) (State.isArrayOf_alike hZ.alike A.2.1) A.2.2 (own_in q hj hi hl) (own_get q hi hv) hg hs hd t) K
theorem own_ldB (Y : own_S p l e R s m args below meth c n0 T h k n) (hx : p.tables.exec = Jvm.exec) (hZ : Z.Warmed39 s.vm) {a : Addr} {vs : List Value} (A : own_A Z h a .byte vs) {j : Int32} {i : Nat} (hj : ¬ j < 0) (hi : j.toNatClampNeg = i) (hl : i < vs.length) {v : Value} (hv : vs[i]? = some v) {g : JFrame} (hg : g.method = m) {rest : List Value} (hs : g.stack = .int j :: .ref a :: rest) (hd : decode c.code g.pc = .ok (.baload, 1))
    (K : own_Ends p.tables e below P (T.setTop { g with pc := g.pc + 1, stack := v :: rest })) : own_Ends p.tables e below P (T.setTop g) := by
  obtain ⟨locs, X, e1, N⟩ := Y
  obtain ⟨cl, A, q, r⟩ := A
  exact own_st (fun t => X.baloadBytes hx (by rw [e1]; exact A.1) (State.isArrayOf_alike hZ.alike A.2.1) A.2.2 (own_in q hj hi hl) (own_get q hi hv) hg hs hd t) K
theorem own_ldC (Y : own_S p l e R s m args below meth c n0 T h k n) (hx : p.tables.exec = Jvm.exec) (hZ : Z.Warmed39 s.vm) {a : Addr} {vs : List Value} (A : own_A Z h a .char vs) {j : Int32} {i : Nat} (hj : ¬ j < 0) (hi : j.toNatClampNeg = i) (hl : i < vs.length) {v : Value} (hv : vs[i]? = some v) {g : JFrame} (hg : g.method = m) {rest : List Value} (hs : g.stack = .int j :: .ref a :: rest) (hd : decode c.code g.pc = .ok (.caload, 1))
    (K : own_Ends p.tables e below P (T.setTop { g with pc := g.pc + 1, stack := v :: rest })) : own_Ends p.tables e below P (T.setTop g) := by
  obtain ⟨locs, X, e1, N⟩ := Y
  obtain ⟨cl, A, q, r⟩ := A
  exact own_st (fun t => X.caload hx (by rw [e1]; exact A.1) (State.isArrayOf_alike hZ.alike A.2.1) A.2.2 (own_in q hj hi hl) (own_get q hi hv) hg hs hd t) K
theorem own_ldJ (Y : own_S p l e R s m args below meth c n0 T h k n) (hx : p.tables.exec = Jvm.exec) (hZ : Z.Warmed39 s.vm) {a : Addr} {vs : List Value} (A : own_A Z h a .long vs) {j : Int32} {i : Nat} (hj : ¬ j < 0) (hi : j.toNatClampNeg = i) (hl : i < vs.length) {v : Value} (hv : vs[i]? = some v) {g : JFrame} (hg : g.method = m) {rest : List Value} (hs : g.stack = .int j :: .ref a :: rest) (hd : decode c.code g.pc = .ok (.laload, 1))
    (K : own_Ends p.tables e below P (T.setTop { g with pc := g.pc + 1, stack := v :: rest })) : own_Ends p.tables e below P (T.setTop g) := by
  obtain ⟨locs, X, e1, N⟩ := Y
  obtain ⟨cl, A, q, r⟩ := A
  exact own_st (fun t => X.laload hx (by rw [e1]; exact A.1) (State.isArrayOf_alike hZ.alike A.2.1) A.2.2 (own_in q hj hi hl) (own_get q hi hv) hg hs hd t) K
/-! constants -/
theorem own_ldcI (Y : own_S p l e R s m args below meth c n0 T h k n) (hx : p.tables.exec = Jvm.exec) (hZ : Z.Warmed39 s.vm) {own : String} {index : Nat} {v : Int32} (hown : s.vm.findClass own = some m.cls) (w : (Jvm.Cond.constant own index v).before a0 Z = true) {g : JFrame} (hg : g.method = m) (hd : decode c.code g.pc = .ok (.ldc index, 2))
    (K : own_Ends p.tables e below P (T.setTop { g with pc := g.pc + 2, stack := .int v :: g.stack })) : own_Ends p.tables e below P (T.setTop g) := by
  obtain ⟨locs, X, e1, N⟩ := Y
  exact own_st (X.ldcInt hx hown (mvT hZ w) hg hd) K
theorem own_ldcJ (Y : own_S p l e R s m args below meth c n0 T h k n) (hx : p.tables.exec = Jvm.exec) (hZ : Z.Warmed39 s.vm) {own : String} {index : Nat} {v : Int64} (hown : s.vm.findClass own = some m.cls) (w : (Jvm.Cond.constantLong own index v).before a0 Z = true) {g : JFrame} (hg : g.method = m) (hd : decode c.code g.pc = .ok (.ldc2_w index, 3))
    (K : own_Ends p.tables e below P (T.setTop { g with pc := g.pc + 3, stack := .long v :: g.stack })) : own_Ends p.tables e below P (T.setTop g) := by
  obtain ⟨locs, X, e1, N⟩ := Y
  exact own_st (X.ldc2Long hx hown (mvT hZ w) hg hd) K
theorem own_irem (Y : own_S p l e R s m args below meth c n0 T h k n) (hx : p.tables.exec = Jvm.exec) {g : JFrame} (hg : g.method = m) {x y : Int32} {rest : List Value} (hd : decode c.code g.pc = .ok (.irem, 1)) (hs : g.stack = .int y :: .int x :: rest) (hy : y ≠ 0)
    (K : own_Ends p.tables e below P (T.setTop { g with pc := g.pc + 1, stack := .int (x % y) :: rest })) : own_Ends p.tables e below P (T.setTop g) := by
  obtain ⟨locs, X, e1, N⟩ := Y
  exact own_st (fun t => iremM X hx hg hd hs hy) K
/-! calls by contract -/
theorem own_callS (Y : own_S p l e R s m args below meth c n0 T h k n) (hx : p.tables.exec = Jvm.exec) (hZ : Z.Warmed39 s.vm) {own : String} {index : Nat} {y : MethodName} {bytes : ByteArray} {maxL : Nat} {ret : Option FieldType} (hown : s.vm.findClass own = some m.cls) (wl : (Jvm.Cond.methodLink own index y).before a0 Z = true) (wst : (Jvm.Cond.static y).before a0 Z = true) (wi : (Jvm.Cond.initialized y.cls).before a0 Z = true) (wc : (Jvm.Cond.code y bytes maxL ret).before a0 Z = true)
    (hy : y.cls ≠ "java/lang/invoke/MethodHandle" ∧ y.cls ≠ "java/lang/invoke/VarHandle") {rm : Room} {argsL rest : List Value} {Qf : Option Value → Heap → Prop} (hM : own_Con l Z y bytes maxL ret [] rm argsL.toArray h n0 Qf) {W : Nat} (hfr : rm.frames + 1 ≤ R.frames) (hlo : W + (maxL + 11) + rm.locals ≤ R.locals) (hc : k + rm.cells ≤ R.cells) (hsl : n + rm.slots ≤ R.slots)
    {g : JFrame} (hg : g.method = m) (hsize : g.locals.size = c.maxLocals) (hlen : ∀ sig, parseMethodDescriptor y.desc = some sig → argsL.length = sig.parameters.length) (hs : g.stack = argsL.reverse ++ rest) (hW : 2 * g.monitorRoom + (rest.map fun v => v.category).sum ≤ W) (hd : decode c.code g.pc = .ok (.invokestatic index, 3))
    (K : ∀ T' h' v, own_S p l e R s m args below meth c n0 T' h' (k + rm.cells) (n + rm.slots) → Qf v h' → own_Ends p.tables e below P (T'.setTop { g with pc := g.pc + 3, stack := v.toList ++ rest })) : own_Ends p.tables e below P (T.setTop g) := by
  obtain ⟨locs, X, e1, N⟩ := Y
  obtain ⟨v, vm1, ⟨T', L', k', n'⟩, -, X', ⟨L, hQ, l1, y1, z1⟩, st⟩ := Jvm.LawKit.callS X hx hown (mvT hZ wl) (mvT hZ wst) (mvT hZ wi) (mvT hZ wc) hy (backOf (W := W) (Q := fun v h L => Fr n0 L ∧ Qf v h) hM hZ wc wi hfr hlo) hg hsize hlen hs hW hd (fun _ _ => ⟨rfl, e1, hc, hsl⟩)
  dsimp only [Pt.U, Pt.locs, Pt.cells, Pt.slots] at X' l1 y1 z1 st hQ
  subst l1 y1 z1
  exact own_st st (K T' _ v ⟨_, X', rfl, Fr.app N hQ.1⟩ hQ.2)
theorem own_callN (Y : own_S p l e R s m args below meth c n0 T h k n) (hx : p.tables.exec = Jvm.exec) (hZ : Z.Warmed39 s.vm) {own : String} {index : Nat} {y : MethodName} {bytes : ByteArray} {maxL : Nat} (hy1 : y.name = "<init>") (hown : s.vm.findClass own = some m.cls) (wl : (Jvm.Cond.methodLink own index y).before a0 Z = true) (win : (Jvm.Cond.instanceMethod y).before a0 Z = true) (wi : (Jvm.Cond.initialized y.cls).before a0 Z = true) (wc : (Jvm.Cond.code y bytes maxL none).before a0 Z = true)
    (hy : y.cls ≠ "java/lang/invoke/MethodHandle" ∧ y.cls ≠ "java/lang/invoke/VarHandle") {rm : Room} {a : Addr} {argsL rest : List Value} {Qf : Option Value → Heap → Prop} (hM : own_Con l Z y bytes maxL none [] rm (.ref a :: argsL).toArray h n0 Qf) {W : Nat} (hfr : rm.frames + 1 ≤ R.frames) (hlo : W + (maxL + 11) + rm.locals ≤ R.locals) (hc : k + rm.cells ≤ R.cells) (hsl : n + rm.slots ≤ R.slots)
    {g : JFrame} (hg : g.method = m) (hsize : g.locals.size = c.maxLocals) (hlen : ∀ sig, parseMethodDescriptor y.desc = some sig → argsL.length = sig.parameters.length) (hs : g.stack = argsL.reverse ++ .ref a :: rest) (hW : 2 * g.monitorRoom + (rest.map fun v => v.category).sum ≤ W) (hd : decode c.code g.pc = .ok (.invokespecial index, 3))
    (K : ∀ T' h' v, own_S p l e R s m args below meth c n0 T' h' (k + rm.cells) (n + rm.slots) → Qf v h' → own_Ends p.tables e below P (T'.setTop { g with pc := g.pc + 3, stack := v.toList ++ rest })) : own_Ends p.tables e below P (T.setTop g) := by
  obtain ⟨locs, X, e1, N⟩ := Y
  obtain ⟨v, vm1, ⟨T', L', k', n'⟩, -, X', ⟨L, hQ, l1, y1, z1⟩, st⟩ := X.specialBack hx hy1 hown (mvT hZ wl) (mvT hZ win) (mvT hZ wc) hy (backOf (W := W) (Q := fun v h L => Fr n0 L ∧ Qf v h) hM hZ wc wi hfr hlo) hg hsize (Steps.refl _) hlen hs hW hd (fun _ _ => ⟨rfl, e1, hc, hsl⟩)
  dsimp only [Pt.U, Pt.locs, Pt.cells, Pt.slots] at X' l1 y1 z1 st hQ
  subst l1 y1 z1
  exact own_st (fun t q => st.trans q) (K T' _ v ⟨_, X', rfl, Fr.app N hQ.1⟩ hQ.2)
theorem own_callV (Y : own_S p l e R s m args below meth c n0 T h k n) (hx : p.tables.exec = Jvm.exec) (hZ : Z.Warmed39 s.vm) {own C : String} {index : Nat} {y z : MethodName} {bytes : ByteArray} {maxL : Nat} {ret : Option FieldType} (hown : s.vm.findClass own = some m.cls) (wl : (Jvm.Cond.methodLink own index y).before a0 Z = true) (wd : (Jvm.Cond.declares y).before a0 Z = true) (hnf : NotFace s y) (wse : (Jvm.Cond.selects C y z).before a0 Z = true) (win : (Jvm.Cond.instanceMethod z).before a0 Z = true) (wi : (Jvm.Cond.initialized z.cls).before a0 Z = true) (wc : (Jvm.Cond.code z bytes maxL ret).before a0 Z = true)
    (hy : y.cls ≠ "java/lang/invoke/MethodHandle" ∧ y.cls ≠ "java/lang/invoke/VarHandle") {rm : Room} {a : Addr} (E : Exa Z h a C) {argsL rest : List Value} {Qf : Option Value → Heap → Prop} (hM : own_Con l Z z bytes maxL ret [] rm (.ref a :: argsL).toArray h n0 Qf) {W : Nat} (hfr : rm.frames + 1 ≤ R.frames) (hlo : W + (maxL + 11) + rm.locals ≤ R.locals) (hc : k + rm.cells ≤ R.cells) (hsl : n + rm.slots ≤ R.slots)
    {g : JFrame} (hg : g.method = m) (hsize : g.locals.size = c.maxLocals) (hlen : ∀ sig, parseMethodDescriptor y.desc = some sig → argsL.length = sig.parameters.length) (hs : g.stack = argsL.reverse ++ .ref a :: rest) (hW : 2 * g.monitorRoom + (rest.map fun v => v.category).sum ≤ W) (hd : decode c.code g.pc = .ok (.invokevirtual index, 3))
    (K : ∀ T' h' v, own_S p l e R s m args below meth c n0 T' h' (k + rm.cells) (n + rm.slots) → Qf v h' → own_Ends p.tables e below P (T'.setTop { g with pc := g.pc + 3, stack := v.toList ++ rest })) : own_Ends p.tables e below P (T.setTop g) := by
  obtain ⟨locs, X, e1, N⟩ := Y
  obtain ⟨cq, kq, qa, qb, qc⟩ := isOf hZ e1 E
  obtain ⟨v, vm1, ⟨T', L', k', n'⟩, -, X', ⟨L, hQ, l1, y1, z1⟩, st⟩ := X.virtualBack hx hown (mvT hZ wl) (mvT hZ wd) hnf (mvT hZ wse) (mvT hZ win) hy (backOf (W := W) (Q := fun v h L => Fr n0 L ∧ Qf v h) hM hZ wc wi hfr hlo) qa qc hg hsize (Steps.refl _) hlen hs hW hd (fun _ _ => ⟨rfl, e1, hc, hsl⟩)
  dsimp only [Pt.U, Pt.locs, Pt.cells, Pt.slots] at X' l1 y1 z1 st hQ
  subst l1 y1 z1
  exact own_st (fun t q => st.trans q) (K T' _ v ⟨_, X', rfl, Fr.app N hQ.1⟩ hQ.2)
theorem own_callU (Y : own_S p l e R s m args below meth c n0 T h k n) (hx : p.tables.exec = Jvm.exec) (hZ : Z.Warmed39 s.vm) {own C owner : String} {index : Nat} {y z : MethodName} {bytes : ByteArray} {maxL : Nat} {ret : Option FieldType} (hown : s.vm.findClass own = some m.cls) (wl : (Jvm.Cond.methodLink own index y).before a0 Z = true) (wsm : (Jvm.Cond.sameMethod y.cls owner y.name y.desc).before a0 Z = true) (wd : (Jvm.Cond.declares ⟨owner, y.name, y.desc⟩).before a0 Z = true) (wse : (Jvm.Cond.selects C y z).before a0 Z = true) (win : (Jvm.Cond.instanceMethod z).before a0 Z = true) (wi : (Jvm.Cond.initialized z.cls).before a0 Z = true) (wc : (Jvm.Cond.code z bytes maxL ret).before a0 Z = true)
    (hy : owner ≠ "java/lang/invoke/MethodHandle" ∧ owner ≠ "java/lang/invoke/VarHandle") {rm : Room} {a : Addr} (E : Exa Z h a C) {argsL rest : List Value} {Qf : Option Value → Heap → Prop} (hM : own_Con l Z z bytes maxL ret [] rm (.ref a :: argsL).toArray h n0 Qf) {W : Nat} (hfr : rm.frames + 1 ≤ R.frames) (hlo : W + (maxL + 11) + rm.locals ≤ R.locals) (hc : k + rm.cells ≤ R.cells) (hsl : n + rm.slots ≤ R.slots)
    {g : JFrame} (hg : g.method = m) (hsize : g.locals.size = c.maxLocals) (hlen : ∀ sig, parseMethodDescriptor y.desc = some sig → argsL.length = sig.parameters.length) (hs : g.stack = argsL.reverse ++ .ref a :: rest) (hW : 2 * g.monitorRoom + (rest.map fun v => v.category).sum ≤ W) (hd : decode c.code g.pc = .ok (.invokevirtual index, 3))
    (K : ∀ T' h' v, own_S p l e R s m args below meth c n0 T' h' (k + rm.cells) (n + rm.slots) → Qf v h' → own_Ends p.tables e below P (T'.setTop { g with pc := g.pc + 3, stack := v.toList ++ rest })) : own_Ends p.tables e below P (T.setTop g) := by
  obtain ⟨locs, X, e1, N⟩ := Y
  obtain ⟨cq, kq, qa, qb, qc⟩ := isOf hZ e1 E
  obtain ⟨v, vm1, ⟨T', L', k', n'⟩, -, X', ⟨L, hQ, l1, y1, z1⟩, st⟩ := X.virtualBackUp hx hown (mvT hZ wl) (mvT hZ wsm) (mvT hZ wd) hy (mvT hZ wse) (mvT hZ win) (backOf (W := W) (Q := fun v h L => Fr n0 L ∧ Qf v h) hM hZ wc wi hfr hlo) qa qc hg hsize (Steps.refl _) hlen hs hW hd (fun _ _ => ⟨rfl, e1, hc, hsl⟩)
  dsimp only [Pt.U, Pt.locs, Pt.cells, Pt.slots] at X' l1 y1 z1 st hQ
  subst l1 y1 z1
  exact own_st (fun t q => st.trans q) (K T' _ v ⟨_, X', rfl, Fr.app N hQ.1⟩ hQ.2)
theorem own_callP (Y : own_S p l e R s m args below meth c n0 T h k n) (hx : p.tables.exec = Jvm.exec) (hZ : Z.Warmed39 s.vm) {own C : String} {index : Nat} {y : MethodName} {bytes : ByteArray} {maxL : Nat} {ret : Option FieldType} (hown : s.vm.findClass own = some m.cls) (wl : (Jvm.Cond.methodLink own index y).before a0 Z = true) {nn : Nat} (win : (Jvm.Cond.instanceMethod y).before a0 Z = true) (wn : (Jvm.Cond.instantiable y.cls nn).before a0 Z = true) (wp : (Jvm.Cond.privateMethod y).before a0 Z = true) (wi : (Jvm.Cond.initialized y.cls).before a0 Z = true) (wc : (Jvm.Cond.code y bytes maxL ret).before a0 Z = true)
    (hy : y.cls ≠ "java/lang/invoke/MethodHandle" ∧ y.cls ≠ "java/lang/invoke/VarHandle") {rm : Room} {a : Addr} (E : Exa Z h a C) {argsL rest : List Value} {Qf : Option Value → Heap → Prop} (hM : own_Con l Z y bytes maxL ret [] rm (.ref a :: argsL).toArray h n0 Qf) {W : Nat} (hfr : rm.frames + 1 ≤ R.frames) (hlo : W + (maxL + 11) + rm.locals ≤ R.locals) (hc : k + rm.cells ≤ R.cells) (hsl : n + rm.slots ≤ R.slots)
    {g : JFrame} (hg : g.method = m) (hsize : g.locals.size = c.maxLocals) (hlen : ∀ sig, parseMethodDescriptor y.desc = some sig → argsL.length = sig.parameters.length) (hs : g.stack = argsL.reverse ++ .ref a :: rest) (hW : 2 * g.monitorRoom + (rest.map fun v => v.category).sum ≤ W) (hd : decode c.code g.pc = .ok (.invokevirtual index, 3))
    (K : ∀ T' h' v, own_S p l e R s m args below meth c n0 T' h' (k + rm.cells) (n + rm.slots) → Qf v h' → own_Ends p.tables e below P (T'.setTop { g with pc := g.pc + 3, stack := v.toList ++ rest })) : own_Ends p.tables e below P (T.setTop g) := by
  obtain ⟨locs, X, e1, N⟩ := Y
  obtain ⟨cell, q, q'⟩ := E.cell
  have wn' : (Jvm.Cond.instantiable y.cls nn).before #[] s = true := mvT hZ wn
  obtain ⟨ci, ki, hi1, hi2, -, hi4, -⟩ := Cond.instantiable_spec wn'
  have wse : (Jvm.Cond.selects y.cls y y).before args s = true := selects_self_of_private hi1 hi2 (by simpa using (Bool.or_eq_false_iff.mp hi4).1) (Cond.privateMethod_at (mvP hZ wp (args := #[]))) (mvT hZ win) hy
  obtain ⟨v, vm1, ⟨T', L', k', n'⟩, -, X', ⟨L, hQ, l1, y1, z1⟩, st⟩ := X.privateBack hx hown (mvT hZ wl) (mvT hZ win) wse (Cond.privateMethod_at (mvP hZ wp (args := #[]))) (mvT hZ wc) hy (backOf (W := W) (Q := fun v h L => Fr n0 L ∧ Qf v h) hM hZ wc wi hfr hlo) hg hsize (Steps.refl _) (by rw [e1]; exact q) q' hlen hs hW hd (fun _ _ => ⟨rfl, e1, hc, hsl⟩)
  dsimp only [Pt.U, Pt.locs, Pt.cells, Pt.slots] at X' l1 y1 z1 st hQ
  subst l1 y1 z1
  exact own_st (fun t q => st.trans q) (K T' _ v ⟨_, X', rfl, Fr.app N hQ.1⟩ hQ.2)
end OwnLayer
section OwnNums
def own_b (b : Bool) : Int32 := if b then 1 else 0
theorem own_b_t {b : Bool} (h : b = true) : own_b b = 1 := by subst h; rfl
theorem own_b_f {b : Bool} (h : b = false) : own_b b = 0 := by subst h; rfl
theorem own_b_0 (b : Bool) : own_b b = 0 ↔ b = false := by cases b <;> simp [own_b]
theorem own_b_n (b : Bool) : nar .boolean (own_b b) = own_b b := by cases b <;> rfl
theorem own_b_inj {a b : Bool} : own_b a = own_b b ↔ a = b := by cases a <;> cases b <;> simp [own_b]
theorem own_idx {j : Int32} {n : Nat} (h0 : 0 ≤ j.toInt) (h1 : j.toInt < (n : Int)) : ¬ j < 0 ∧ j.toNatClampNeg < n := by
  refine ⟨?_, ?_⟩
  · rw [Int32.lt_iff_toInt_lt]; show ¬ j.toInt < 0; omega
  · show j.toInt.toNat < n; omega
theorem own_ints {xs : List Int32} {i : Nat} (h : i < xs.length) : ∃ d, (xs.map Value.int)[i]? = some (.int d) ∧ d = xs[i] := ⟨xs[i], by simp [h], rfl⟩
theorem own_longs {xs : List Int64} {i : Nat} (h : i < xs.length) : ∃ d, (xs.map Value.long)[i]? = some (.long d) ∧ d = xs[i] := ⟨xs[i], by simp [h], rfl⟩
/-- p i, p (i + 1), .., k of them, all hold -/
def own_all (p : Nat → Bool) : Nat → Nat → Bool
  | _, 0 => true
  | i, k + 1 => p i && own_all p (i + 1) k
def own_g (xs : List Int32) (i : Nat) : Int32 := xs.getD i 0
theorem own_mget {xs : List Int32} {i : Nat} (h : i < (xs.map Value.int).length) : (xs.map Value.int)[i]? = some (.int (own_g xs i)) := by
  have h' : i < xs.length := by simpa using h
  simp [h', own_g]
theorem own_mlen {xs : List Int32} {i : Nat} (h : i < xs.length) : i < (xs.map Value.int).length := by simpa using h
theorem own_nat {j : Int32} {i : Nat} (h : j.toInt = (i : Int)) : ¬ j < 0 ∧ j.toNatClampNeg = i := by
  refine ⟨?_, ?_⟩
  · rw [Int32.lt_iff_toInt_lt]; show ¬ j.toInt < 0; omega
  · show j.toInt.toNat = i; omega
theorem own_inc {j : Int32} {i : Nat} (h : j.toInt = (i : Int)) (hi : i + 1 < 2147483648) : (j + 1).toInt = ((i + 1 : Nat) : Int) := by
  have := c_iadd j 1
  have h1 : (1 : Int32).toInt = 1 := rfl
  have := rng32 (j + 1)
  omega
theorem own_lt {x y : Int32} : x < y ↔ x.toInt < y.toInt := Int32.lt_iff_toInt_lt
theorem own_eq {x y : Int32} : x = y ↔ x.toInt = y.toInt := Int32.toInt_inj.symm
theorem own_tolen {ys : List Int32} {z : Int32} (h : z.toInt = (ys.length : Int)) : (ys.map Value.int).length.toInt32 = z := by
  have q := rng32 z
  have e : (ys.map Value.int).length = ys.length := by simp
  rw [own_eq, len_toInt (by rw [e]; omega), e, h]
theorem own_add {x y : Int32} {a b : Nat} (h1 : x.toInt = (a : Int)) (h2 : y.toInt = (b : Int)) (hi : a + b < 2147483648) : (x + y).toInt = ((a + b : Nat) : Int) := by
  have := c_iadd x y
  have := rng32 (x + y)
  omega
theorem own_sub {x y : Int32} {a b : Nat} (h1 : x.toInt = (a : Int)) (h2 : y.toInt = (b : Int)) : (x - y).toInt = (a : Int) - (b : Int) := by
  have := c_isub x y
  have := rng32 (x - y)
  have := rng32 x
  have := rng32 y
  omega
end OwnNums
def own_dig (b : Int32) : Bool := decide (48 ≤ (b &&& 255).toInt ∧ (b &&& 255).toInt < 58)
def own_sdig (b : Int32) : Bool := decide (48 ≤ b.toInt ∧ b.toInt ≤ 57)
def own_ok (i f t b : Int32) : Bool := decide (i < f) || !decide (i < t) || own_dig b
theorem own_dig_eq (y : Int32) : own_dig (y.toInt8.toInt32) = own_sdig (y.toInt8.toInt32) := by
  have h := c_i2b y
  have h2 := c_mask (y.toInt8.toInt32) 255 8 (by decide) (by decide)
  have h3 : ((2 ^ 8 : Nat) : Int) = 256 := by decide
  rw [h3] at h2
  simp only [own_dig, own_sdig, decide_eq_decide]
  omega
def own_isd (xs : List Int32) (f t : Nat) : Bool := decide (f < t) && own_all (fun i => own_sdig (own_g xs i)) f (t - f)
theorem own_law (b0 b1 b2 b3 f t : Int32) (i j : Nat) (hf : f.toInt = (i : Int)) (ht : t.toInt = (j : Int)) (hij : i ≤ j) (hj : j ≤ 4)
    (h0 : own_dig b0 = own_sdig b0) (h1 : own_dig b1 = own_sdig b1) (h2 : own_dig b2 = own_sdig b2) (h3 : own_dig b3 = own_sdig b3) :
    own_isd [b0, b1, b2, b3] i j = (decide (f < t) && own_ok 0 f t b0 && own_ok 1 f t b1 && own_ok 2 f t b2 && own_ok 3 f t b3) := by
  have e0 : (0 : Int32).toInt = 0 := rfl
  have e1 : (1 : Int32).toInt = 1 := rfl
  have e2 : (2 : Int32).toInt = 2 := rfl
  have e3 : (3 : Int32).toInt = 3 := rfl
  simp only [own_ok, own_lt, hf, ht, e0, e1, e2, e3, h0, h1, h2, h3]
  have hi : i = 0 ∨ i = 1 ∨ i = 2 ∨ i = 3 ∨ i = 4 := by omega
  have hj' : j = 0 ∨ j = 1 ∨ j = 2 ∨ j = 3 ∨ j = 4 := by omega
  rcases hi with rfl | rfl | rfl | rfl | rfl <;> rcases hj' with rfl | rfl | rfl | rfl | rfl <;> first | (exfalso; omega) | simp [own_isd, own_all, own_g, Bool.and_assoc]
theorem own_pn0 : plainName "com/example/tagwire/tagwire/wire/BytesIsDigitsPinLaw" = true := by first | (simp [plainName, overriddenIn]; done) | decide +kernel
theorem own_d2_0 : decode method_2_code 0 = .ok (.iload_n 0, 1) := by decide +kernel
theorem own_d2_1 : decode method_2_code 1 = .ok (.sipush 255, 3) := by decide +kernel
theorem own_d2_4 : decode method_2_code 4 = .ok (.iand, 1) := by decide +kernel
theorem own_d2_5 : decode method_2_code 5 = .ok (.istore_n 1, 1) := by decide +kernel
theorem own_d2_6 : decode method_2_code 6 = .ok (.iload_n 1, 1) := by decide +kernel
theorem own_d2_7 : decode method_2_code 7 = .ok (.bipush 48, 2) := by decide +kernel
theorem own_d2_9 : decode method_2_code 9 = .ok (.if_icmp .lt 13, 3) := by decide +kernel
theorem own_d2_22 : decode method_2_code 22 = .ok (.iconst 0, 1) := by decide +kernel
theorem own_d2_23 : decode method_2_code 23 = .ok (.ireturn, 1) := by decide +kernel
theorem own_d2_12 : decode method_2_code 12 = .ok (.iload_n 1, 1) := by decide +kernel
theorem own_d2_13 : decode method_2_code 13 = .ok (.bipush 58, 2) := by decide +kernel
theorem own_d2_15 : decode method_2_code 15 = .ok (.if_icmp .ge 7, 3) := by decide +kernel
theorem own_d2_18 : decode method_2_code 18 = .ok (.iconst 1, 1) := by decide +kernel
theorem own_d2_19 : decode method_2_code 19 = .ok (.goto 4, 3) := by decide +kernel
theorem own_ef_own_rm2 (m : MethodId) (x0 : Int32) : entryFrame m #[(.int x0)] 2 = mkF m 0 #[.val (.int x0), .unset] [] := by first | (simp [entryFrame, mkF, argsToLocals, Value.category]; done) | rfl
def own_Q_own_rm2 (Z : State) (x0 : Int32) (h0 : Heap) (n0 : Nat) (v : Option Value) (h : Heap) : Prop := v = some (.int (own_b (own_dig x0))) ∧ h0 = h
set_option maxRecDepth 65536 in
set_option maxHeartbeats 40000000 in
theorem own_rm2 (l : Launch) (Z : State) (a0 : Array Value) (hw : ∀ d ∈ tables_1, d.before a0 Z = true) (ws : List Jvm.Cond) (x0 : Int32)  (h0 : Heap) (n0 : Nat)   :
    own_Con l Z (⟨"com/example/tagwire/tagwire/wire/BytesIsDigitsPinLaw", "digit", "(B)Z"⟩ : MethodName) method_2_code 2 (some .boolean) ws ({ frames := 0, cells := 0, slots := 0, locals := 0 } : Room) #[(.int x0)] h0 n0 (own_Q_own_rm2 Z x0 h0 n0) := by
  refine own_body (plainFor_of_name own_pn0) ?_
  intro p e s m below meth c T0 hx hZ hby hml hown hnm hret hlk Y0
  replace hown : s.vm.findClass "com/example/tagwire/tagwire/wire/BytesIsDigitsPinLaw" = some m.cls := hown
  replace hnm : meth.name = "digit" := hnm
  rw [own_ef_own_rm2 m x0]
  show own_Ends _ _ _ _ (T0.setTop (mkF m 0 #[.val (.int x0), .unset] []))
  refine own_st (fun t_ => XS.iloadN (own_here Y0) hx rfl (hb hby own_d2_0) rfl) ?_
  show own_Ends _ _ _ _ (T0.setTop (mkF m 1 #[.val (.int x0), .unset] [(.int x0)]))
  refine own_st (fun t_ => XS.sipush (own_here Y0) hx rfl (hb hby own_d2_1) ) ?_
  show own_Ends _ _ _ _ (T0.setTop (mkF m 4 #[.val (.int x0), .unset] [(.int (255 : Int32)), (.int x0)]))
  refine own_st (fun t_ => XS.iand (own_here Y0) hx rfl (hb hby own_d2_4) rfl) ?_
  show own_Ends _ _ _ _ (T0.setTop (mkF m 5 #[.val (.int x0), .unset] [(.int (x0 &&& (255 : Int32)))]))
  refine own_st (fun t_ => XS.istoreN (own_here Y0) hx rfl (hb hby own_d2_5) rfl (l' := #[.val (.int x0), .val (.int (x0 &&& (255 : Int32)))]) rfl) ?_
  show own_Ends _ _ _ _ (T0.setTop (mkF m 6 #[.val (.int x0), .val (.int (x0 &&& (255 : Int32)))] []))
  refine own_st (fun t_ => XS.iloadN (own_here Y0) hx rfl (hb hby own_d2_6) rfl) ?_
  show own_Ends _ _ _ _ (T0.setTop (mkF m 7 #[.val (.int x0), .val (.int (x0 &&& (255 : Int32)))] [(.int (x0 &&& (255 : Int32)))]))
  refine own_st (fun t_ => XS.bipush (own_here Y0) hx rfl (hb hby own_d2_7) ) ?_
  show own_Ends _ _ _ _ (T0.setTop (mkF m 9 #[.val (.int x0), .val (.int (x0 &&& (255 : Int32)))] [(.int (48 : Int32)), (.int (x0 &&& (255 : Int32)))]))
  by_cases c9_1 : (x0 &&& (255 : Int32)) < (48 : Int32)
  ·
   refine own_st (fun t_ => XS.icmpYes (own_here Y0) hx rfl (pc0 := 9) (pc' := 22) rfl (hb hby own_d2_9) rfl (XT.ii_lt_t c9_1) (by decide) (by decide)) ?_
   show own_Ends _ _ _ _ (T0.setTop (mkF m 22 #[.val (.int x0), .val (.int (x0 &&& (255 : Int32)))] []))
   refine own_st (fun t_ => XS.iconst (own_here Y0) hx rfl (hb hby own_d2_22) ) ?_
   show own_Ends _ _ _ _ (T0.setTop (mkF m 23 #[.val (.int x0), .val (.int (x0 &&& (255 : Int32)))] [(.int (0 : Int32))]))
   refine own_retN Y0 hx hlk (t := .boolean) hret (by simp) (hb hby own_d2_23) (by decide) (by decide) ?_
   refine ⟨?_, rfl⟩
   simp only [own_lt] at c9_1
   have e1 : (48 : Int32).toInt = 48 := rfl
   have e2 : (58 : Int32).toInt = 58 := rfl
   have : own_dig x0 = false := by simp only [own_dig, decide_eq_false_iff_not]; omega
   rw [this]; rfl
  ·
   refine own_st (fun t_ => XS.icmpNo (own_here Y0) hx rfl (hb hby own_d2_9) rfl (XT.ii_lt_f c9_1)) ?_
   show own_Ends _ _ _ _ (T0.setTop (mkF m 12 #[.val (.int x0), .val (.int (x0 &&& (255 : Int32)))] []))
   refine own_st (fun t_ => XS.iloadN (own_here Y0) hx rfl (hb hby own_d2_12) rfl) ?_
   show own_Ends _ _ _ _ (T0.setTop (mkF m 13 #[.val (.int x0), .val (.int (x0 &&& (255 : Int32)))] [(.int (x0 &&& (255 : Int32)))]))
   refine own_st (fun t_ => XS.bipush (own_here Y0) hx rfl (hb hby own_d2_13) ) ?_
   show own_Ends _ _ _ _ (T0.setTop (mkF m 15 #[.val (.int x0), .val (.int (x0 &&& (255 : Int32)))] [(.int (58 : Int32)), (.int (x0 &&& (255 : Int32)))]))
   by_cases c15_2 : (x0 &&& (255 : Int32)) < (58 : Int32)
   ·
    refine own_st (fun t_ => XS.icmpNo (own_here Y0) hx rfl (hb hby own_d2_15) rfl (XT.ii_ge_f c15_2)) ?_
    show own_Ends _ _ _ _ (T0.setTop (mkF m 18 #[.val (.int x0), .val (.int (x0 &&& (255 : Int32)))] []))
    refine own_st (fun t_ => XS.iconst (own_here Y0) hx rfl (hb hby own_d2_18) ) ?_
    show own_Ends _ _ _ _ (T0.setTop (mkF m 19 #[.val (.int x0), .val (.int (x0 &&& (255 : Int32)))] [(.int (1 : Int32))]))
    refine own_st (fun t_ => XS.goto (own_here Y0) hx rfl (pc0 := 19) (pc' := 23) rfl (hb hby own_d2_19) (by decide) (by decide)) ?_
    show own_Ends _ _ _ _ (T0.setTop (mkF m 23 #[.val (.int x0), .val (.int (x0 &&& (255 : Int32)))] [(.int (1 : Int32))]))
    refine own_retN Y0 hx hlk (t := .boolean) hret (by simp) (hb hby own_d2_23) (by decide) (by decide) ?_
    refine ⟨?_, rfl⟩
    simp only [own_lt] at c9_1 c15_2
    have e1 : (48 : Int32).toInt = 48 := rfl
    have e2 : (58 : Int32).toInt = 58 := rfl
    have : own_dig x0 = true := by simp only [own_dig, decide_eq_true_eq]; omega
    rw [this]; rfl
   ·
    refine own_st (fun t_ => XS.icmpYes (own_here Y0) hx rfl (pc0 := 15) (pc' := 22) rfl (hb hby own_d2_15) rfl (XT.ii_ge_t c15_2) (by decide) (by decide)) ?_
    show own_Ends _ _ _ _ (T0.setTop (mkF m 22 #[.val (.int x0), .val (.int (x0 &&& (255 : Int32)))] []))
    refine own_st (fun t_ => XS.iconst (own_here Y0) hx rfl (hb hby own_d2_22) ) ?_
    show own_Ends _ _ _ _ (T0.setTop (mkF m 23 #[.val (.int x0), .val (.int (x0 &&& (255 : Int32)))] [(.int (0 : Int32))]))
    refine own_retN Y0 hx hlk (t := .boolean) hret (by simp) (hb hby own_d2_23) (by decide) (by decide) ?_
    refine ⟨?_, rfl⟩
    simp only [own_lt] at c9_1 c15_2
    have e1 : (48 : Int32).toInt = 48 := rfl
    have e2 : (58 : Int32).toInt = 58 := rfl
    have : own_dig x0 = false := by simp only [own_dig, decide_eq_false_iff_not]; omega
    rw [this]; rfl
theorem own_pd0 : parseMethodDescriptor "(B)Z" = some ⟨[.byte], some .boolean⟩ := by decide +kernel
theorem own_d1_0 : decode method_3_code 0 = .ok (.iload_n 0, 1) := by decide +kernel
theorem own_d1_1 : decode method_3_code 1 = .ok (.iload_n 1, 1) := by decide +kernel
theorem own_d1_2 : decode method_3_code 2 = .ok (.if_icmp .lt 8, 3) := by decide +kernel
theorem own_d1_10 : decode method_3_code 10 = .ok (.iconst 1, 1) := by decide +kernel
theorem own_d1_11 : decode method_3_code 11 = .ok (.ireturn, 1) := by decide +kernel
theorem own_d1_5 : decode method_3_code 5 = .ok (.iload_n 0, 1) := by decide +kernel
theorem own_d1_6 : decode method_3_code 6 = .ok (.iload_n 2, 1) := by decide +kernel
theorem own_d1_7 : decode method_3_code 7 = .ok (.if_icmp .lt 5, 3) := by decide +kernel
theorem own_d1_12 : decode method_3_code 12 = .ok (.iload_n 3, 1) := by decide +kernel
theorem own_d1_13 : decode method_3_code 13 = .ok (.invokestatic 7, 3) := by decide +kernel
theorem own_d1_16 : decode method_3_code 16 = .ok (.ireturn, 1) := by decide +kernel
theorem own_ef_own_rm1 (m : MethodId) (x0 : Int32) (x1 : Int32) (x2 : Int32) (x3 : Int32) : entryFrame m #[(.int x0), (.int x1), (.int x2), (.int x3)] 4 = mkF m 0 #[.val (.int x0), .val (.int x1), .val (.int x2), .val (.int x3)] [] := by first | (simp [entryFrame, mkF, argsToLocals, Value.category]; done) | rfl
def own_Q_own_rm1 (Z : State) (x0 : Int32) (x1 : Int32) (x2 : Int32) (x3 : Int32) (h0 : Heap) (n0 : Nat) (v : Option Value) (h : Heap) : Prop := v = some (.int (own_b (own_ok x0 x1 x2 x3))) ∧ h0 = h
set_option maxRecDepth 65536 in
set_option maxHeartbeats 40000000 in
theorem own_rm1 (l : Launch) (Z : State) (a0 : Array Value) (hw : ∀ d ∈ tables_1, d.before a0 Z = true) (ws : List Jvm.Cond) (x0 : Int32) (x1 : Int32) (x2 : Int32) (x3 : Int32)  (h0 : Heap) (n0 : Nat)   :
    own_Con l Z (⟨"com/example/tagwire/tagwire/wire/BytesIsDigitsPinLaw", "ok", "(IIIB)Z"⟩ : MethodName) method_3_code 4 (some .boolean) ws ({ frames := 1, cells := 0, slots := 0, locals := 13 } : Room) #[(.int x0), (.int x1), (.int x2), (.int x3)] h0 n0 (own_Q_own_rm1 Z x0 x1 x2 x3 h0 n0) := by
  refine own_body (plainFor_of_name own_pn0) ?_
  intro p e s m below meth c T0 hx hZ hby hml hown hnm hret hlk Y0
  replace hown : s.vm.findClass "com/example/tagwire/tagwire/wire/BytesIsDigitsPinLaw" = some m.cls := hown
  replace hnm : meth.name = "ok" := hnm
  rw [own_ef_own_rm1 m x0 x1 x2 x3]
  show own_Ends _ _ _ _ (T0.setTop (mkF m 0 #[.val (.int x0), .val (.int x1), .val (.int x2), .val (.int x3)] []))
  refine own_st (fun t_ => XS.iloadN (own_here Y0) hx rfl (hb hby own_d1_0) rfl) ?_
  show own_Ends _ _ _ _ (T0.setTop (mkF m 1 #[.val (.int x0), .val (.int x1), .val (.int x2), .val (.int x3)] [(.int x0)]))
  refine own_st (fun t_ => XS.iloadN (own_here Y0) hx rfl (hb hby own_d1_1) rfl) ?_
  show own_Ends _ _ _ _ (T0.setTop (mkF m 2 #[.val (.int x0), .val (.int x1), .val (.int x2), .val (.int x3)] [(.int x1), (.int x0)]))
  by_cases c2_3 : x0 < x1
  ·
   refine own_st (fun t_ => XS.icmpYes (own_here Y0) hx rfl (pc0 := 2) (pc' := 10) rfl (hb hby own_d1_2) rfl (XT.ii_lt_t c2_3) (by decide) (by decide)) ?_
   show own_Ends _ _ _ _ (T0.setTop (mkF m 10 #[.val (.int x0), .val (.int x1), .val (.int x2), .val (.int x3)] []))
   refine own_st (fun t_ => XS.iconst (own_here Y0) hx rfl (hb hby own_d1_10) ) ?_
   show own_Ends _ _ _ _ (T0.setTop (mkF m 11 #[.val (.int x0), .val (.int x1), .val (.int x2), .val (.int x3)] [(.int (1 : Int32))]))
   refine own_retN Y0 hx hlk (t := .boolean) hret (by simp) (hb hby own_d1_11) (by decide) (by decide) ?_
   exact ⟨by simp [own_ok, nar, own_b, c2_3], rfl⟩
  ·
   refine own_st (fun t_ => XS.icmpNo (own_here Y0) hx rfl (hb hby own_d1_2) rfl (XT.ii_lt_f c2_3)) ?_
   show own_Ends _ _ _ _ (T0.setTop (mkF m 5 #[.val (.int x0), .val (.int x1), .val (.int x2), .val (.int x3)] []))
   refine own_st (fun t_ => XS.iloadN (own_here Y0) hx rfl (hb hby own_d1_5) rfl) ?_
   show own_Ends _ _ _ _ (T0.setTop (mkF m 6 #[.val (.int x0), .val (.int x1), .val (.int x2), .val (.int x3)] [(.int x0)]))
   refine own_st (fun t_ => XS.iloadN (own_here Y0) hx rfl (hb hby own_d1_6) rfl) ?_
   show own_Ends _ _ _ _ (T0.setTop (mkF m 7 #[.val (.int x0), .val (.int x1), .val (.int x2), .val (.int x3)] [(.int x2), (.int x0)]))
   by_cases c7_4 : x0 < x2
   ·
    refine own_st (fun t_ => XS.icmpYes (own_here Y0) hx rfl (pc0 := 7) (pc' := 12) rfl (hb hby own_d1_7) rfl (XT.ii_lt_t c7_4) (by decide) (by decide)) ?_
    show own_Ends _ _ _ _ (T0.setTop (mkF m 12 #[.val (.int x0), .val (.int x1), .val (.int x2), .val (.int x3)] []))
    refine own_st (fun t_ => XS.iloadN (own_here Y0) hx rfl (hb hby own_d1_12) rfl) ?_
    show own_Ends _ _ _ _ (T0.setTop (mkF m 13 #[.val (.int x0), .val (.int x1), .val (.int x2), .val (.int x3)] [(.int x3)]))
    refine own_callS Y0 hx hZ (y := (⟨"com/example/tagwire/tagwire/wire/BytesIsDigitsPinLaw", "digit", "(B)Z"⟩ : MethodName)) hown (hw _ (List.mem_of_getElem? (i := 6) rfl)) (hw _ (List.mem_of_getElem? (i := 7) rfl)) (hw _ (List.mem_of_getElem? (i := 4) rfl)) (hw _ (List.mem_of_getElem? (i := 8) rfl)) (by decide) (argsL := [(.int x3)]) (rest := []) (own_rm2 l Z a0 hw [] x3  h0 n0  ) (W := 0) (by decide) (by decide) (by decide) (by decide) rfl (by rw [hml]; rfl) (lenOf own_pd0 rfl) rfl (by show 2 * 0 + _ ≤ _; exact Nat.le_of_eq rfl) (hb hby own_d1_13) (fun T5 h7 v8 Y6 q9 => ?_)
    obtain ⟨rfl, rfl⟩ := q9
    show own_Ends _ _ _ _ (T5.setTop (mkF m 16 #[.val (.int x0), .val (.int x1), .val (.int x2), .val (.int x3)] [(.int (own_b (own_dig x3)))]))
    refine own_retN Y6 hx hlk (t := .boolean) hret (by simp) (hb hby own_d1_16) (by decide) (by decide) ?_
    exact ⟨by rw [own_b_n]; simp [own_ok, c2_3, c7_4], rfl⟩
   ·
    refine own_st (fun t_ => XS.icmpNo (own_here Y0) hx rfl (hb hby own_d1_7) rfl (XT.ii_lt_f c7_4)) ?_
    show own_Ends _ _ _ _ (T0.setTop (mkF m 10 #[.val (.int x0), .val (.int x1), .val (.int x2), .val (.int x3)] []))
    refine own_st (fun t_ => XS.iconst (own_here Y0) hx rfl (hb hby own_d1_10) ) ?_
    show own_Ends _ _ _ _ (T0.setTop (mkF m 11 #[.val (.int x0), .val (.int x1), .val (.int x2), .val (.int x3)] [(.int (1 : Int32))]))
    refine own_retN Y0 hx hlk (t := .boolean) hret (by simp) (hb hby own_d1_11) (by decide) (by decide) ?_
    exact ⟨by simp [own_ok, nar, own_b, c2_3, c7_4], rfl⟩
theorem own_pn1 : plainName "com/example/tagwire/tagwire/wire/Bytes" = true := by first | (simp [plainName, overriddenIn]; done) | decide +kernel
theorem own_d3_0 : decode prog_49_method_4_code 0 = .ok (.iload_n 1, 1) := by decide +kernel
theorem own_d3_1 : decode prog_49_method_4_code 1 = .ok (.iload_n 2, 1) := by decide +kernel
theorem own_d3_2 : decode prog_49_method_4_code 2 = .ok (.if_icmp .ne 5, 3) := by decide +kernel
theorem own_d3_5 : decode prog_49_method_4_code 5 = .ok (.iconst 0, 1) := by decide +kernel
theorem own_d3_6 : decode prog_49_method_4_code 6 = .ok (.ireturn, 1) := by decide +kernel
theorem own_d3_7 : decode prog_49_method_4_code 7 = .ok (.iload_n 1, 1) := by decide +kernel
theorem own_d3_8 : decode prog_49_method_4_code 8 = .ok (.istore_n 3, 1) := by decide +kernel
theorem own_d3_9 : decode prog_49_method_4_code 9 = .ok (.iload_n 3, 1) := by decide +kernel
theorem own_d3_10 : decode prog_49_method_4_code 10 = .ok (.iload_n 2, 1) := by decide +kernel
theorem own_d3_11 : decode prog_49_method_4_code 11 = .ok (.if_icmp .ge 27, 3) := by decide +kernel
theorem own_d3_14 : decode prog_49_method_4_code 14 = .ok (.aload_n 0, 1) := by decide +kernel
theorem own_d3_15 : decode prog_49_method_4_code 15 = .ok (.iload_n 3, 1) := by decide +kernel
theorem own_d3_16 : decode prog_49_method_4_code 16 = .ok (.baload, 1) := by decide +kernel
theorem own_d3_17 : decode prog_49_method_4_code 17 = .ok (.bipush 48, 2) := by decide +kernel
theorem own_d3_19 : decode prog_49_method_4_code 19 = .ok (.if_icmp .lt 11, 3) := by decide +kernel
theorem own_d3_30 : decode prog_49_method_4_code 30 = .ok (.iconst 0, 1) := by decide +kernel
theorem own_d3_31 : decode prog_49_method_4_code 31 = .ok (.ireturn, 1) := by decide +kernel
theorem own_d3_22 : decode prog_49_method_4_code 22 = .ok (.aload_n 0, 1) := by decide +kernel
theorem own_d3_23 : decode prog_49_method_4_code 23 = .ok (.iload_n 3, 1) := by decide +kernel
theorem own_d3_24 : decode prog_49_method_4_code 24 = .ok (.baload, 1) := by decide +kernel
theorem own_d3_25 : decode prog_49_method_4_code 25 = .ok (.bipush 57, 2) := by decide +kernel
theorem own_d3_27 : decode prog_49_method_4_code 27 = .ok (.if_icmp .le 5, 3) := by decide +kernel
theorem own_d3_32 : decode prog_49_method_4_code 32 = .ok (.iinc 3 1, 3) := by decide +kernel
theorem own_d3_35 : decode prog_49_method_4_code 35 = .ok (.goto (-26), 3) := by decide +kernel
theorem own_d3_38 : decode prog_49_method_4_code 38 = .ok (.iconst 1, 1) := by decide +kernel
theorem own_d3_39 : decode prog_49_method_4_code 39 = .ok (.ireturn, 1) := by decide +kernel
theorem own_ef_own_rm3 (m : MethodId) (r0 : Addr) (x1 : Int32) (x2 : Int32) : entryFrame m #[(.ref r0), (.int x1), (.int x2)] 4 = mkF m 0 #[.val (.ref r0), .val (.int x1), .val (.int x2), .unset] [] := by first | (simp [entryFrame, mkF, argsToLocals, Value.category]; done) | rfl
def own_Q_own_rm3 (Z : State) (xs : List Int32) (f t : Nat) (h0 : Heap) (n0 : Nat) (v : Option Value) (h : Heap) : Prop := v = some (.int (own_b (own_isd xs f t))) ∧ h0 = h
set_option maxRecDepth 65536 in
set_option maxHeartbeats 40000000 in
theorem own_rm3 (l : Launch) (Z : State) (a0 : Array Value) (hw : ∀ d ∈ tables_1, d.before a0 Z = true) (ws : List Jvm.Cond) (r0 : Addr) (x1 : Int32) (x2 : Int32) (xs : List Int32) (f t : Nat) (h0 : Heap) (n0 : Nat)  (A : own_A Z h0 r0 .byte (xs.map Value.int)) (hf : x1.toInt = (f : Int)) (ht : x2.toInt = (t : Int)) (hft : f ≤ t) (htl : t ≤ xs.length) (hts : t < 2147483648) :
    own_Con l Z (⟨"com/example/tagwire/tagwire/wire/Bytes", "isDigits", "([BII)Z"⟩ : MethodName) prog_49_method_4_code 4 (some .boolean) ws ({ frames := 0, cells := 0, slots := 0, locals := 0 } : Room) #[(.ref r0), (.int x1), (.int x2)] h0 n0 (own_Q_own_rm3 Z xs f t h0 n0) := by
  refine own_body (plainFor_of_name own_pn1) ?_
  intro p e s m below meth c T0 hx hZ hby hml hown hnm hret hlk Y0
  replace hown : s.vm.findClass "com/example/tagwire/tagwire/wire/Bytes" = some m.cls := hown
  replace hnm : meth.name = "isDigits" := hnm
  rw [own_ef_own_rm3 m r0 x1 x2]
  show own_Ends _ _ _ _ (T0.setTop (mkF m 0 #[.val (.ref r0), .val (.int x1), .val (.int x2), .unset] []))
  obtain ⟨R, hR0⟩ : ∃ R, own_all (fun i => own_sdig (own_g xs i)) f (t - f) = R := ⟨_, rfl⟩
  refine own_st (fun t_ => XS.iloadN (own_here Y0) hx rfl (hb hby own_d3_0) rfl) ?_
  show own_Ends _ _ _ _ (T0.setTop (mkF m 1 #[.val (.ref r0), .val (.int x1), .val (.int x2), .unset] [(.int x1)]))
  refine own_st (fun t_ => XS.iloadN (own_here Y0) hx rfl (hb hby own_d3_1) rfl) ?_
  show own_Ends _ _ _ _ (T0.setTop (mkF m 2 #[.val (.ref r0), .val (.int x1), .val (.int x2), .unset] [(.int x2), (.int x1)]))
  by_cases c2_10 : x1 = x2
  ·
   refine own_st (fun t_ => XS.icmpNo (own_here Y0) hx rfl (hb hby own_d3_2) rfl (XT.ii_ne_f c2_10)) ?_
   show own_Ends _ _ _ _ (T0.setTop (mkF m 5 #[.val (.ref r0), .val (.int x1), .val (.int x2), .unset] []))
   refine own_st (fun t_ => XS.iconst (own_here Y0) hx rfl (hb hby own_d3_5) ) ?_
   show own_Ends _ _ _ _ (T0.setTop (mkF m 6 #[.val (.ref r0), .val (.int x1), .val (.int x2), .unset] [(.int (0 : Int32))]))
   refine own_retN Y0 hx hlk (t := .boolean) hret (by simp) (hb hby own_d3_6) (by decide) (by decide) ?_
   refine ⟨?_, rfl⟩
   have hft : f = t := by have := c2_10; rw [own_eq, hf, ht] at this; omega
   have : own_isd xs f t = false := by simp [own_isd, hft]
   rw [this]; rfl
  ·
   refine own_st (fun t_ => XS.icmpYes (own_here Y0) hx rfl (pc0 := 2) (pc' := 7) rfl (hb hby own_d3_2) rfl (XT.ii_ne_t c2_10) (by decide) (by decide)) ?_
   show own_Ends _ _ _ _ (T0.setTop (mkF m 7 #[.val (.ref r0), .val (.int x1), .val (.int x2), .unset] []))
   refine own_st (fun t_ => XS.iloadN (own_here Y0) hx rfl (hb hby own_d3_7) rfl) ?_
   show own_Ends _ _ _ _ (T0.setTop (mkF m 8 #[.val (.ref r0), .val (.int x1), .val (.int x2), .unset] [(.int x1)]))
   refine own_st (fun t_ => XS.istoreN (own_here Y0) hx rfl (hb hby own_d3_8) rfl (l' := #[.val (.ref r0), .val (.int x1), .val (.int x2), .val (.int x1)]) rfl) ?_
   show own_Ends _ _ _ _ (T0.setTop (mkF m 9 #[.val (.ref r0), .val (.int x1), .val (.int x2), .val (.int x1)] []))
   have hlt0 : f < t := by have := c2_10; rw [own_eq, hf, ht] at this; omega
   have hL11 : ∀ (k : Nat) (T12 : State)  (i : Nat) (j : Int32) (Y13 : own_S p l e ({ frames := 0, cells := 0, slots := 0, locals := 0 } : Room) s m #[(.ref r0), (.int x1), (.int x2)] below meth c n0 T12 h0 0 0)  (hj : j.toInt = (i : Int)) (hik : i + k = t) (hR : own_all (fun i => own_sdig (own_g xs i)) i k = R), own_Ends p.tables e below (own_P s n0 (own_Q_own_rm3 Z xs f t h0 n0) ({ frames := 0, cells := 0, slots := 0, locals := 0 } : Room).cells ({ frames := 0, cells := 0, slots := 0, locals := 0 } : Room).slots) (T12.setTop (mkF m 9 #[.val (.ref r0), .val (.int x1), .val (.int x2), .val (.int j)] [])) := by
    intro k
    induction k using Nat.strongRecOn with
    | _ k ih =>
     intro T12  i j Y13  hj hik hR
     obtain ⟨hj0, hj1⟩ := own_nat hj
     refine own_st (fun t_ => XS.iloadN (own_here Y13) hx rfl (hb hby own_d3_9) rfl) ?_
     show own_Ends _ _ _ _ (T12.setTop (mkF m 10 #[.val (.ref r0), .val (.int x1), .val (.int x2), .val (.int j)] [(.int j)]))
     refine own_st (fun t_ => XS.iloadN (own_here Y13) hx rfl (hb hby own_d3_10) rfl) ?_
     show own_Ends _ _ _ _ (T12.setTop (mkF m 11 #[.val (.ref r0), .val (.int x1), .val (.int x2), .val (.int j)] [(.int x2), (.int j)]))
     by_cases c11_14 : j < x2
     ·
      refine own_st (fun t_ => XS.icmpNo (own_here Y13) hx rfl (hb hby own_d3_11) rfl (XT.ii_ge_f c11_14)) ?_
      show own_Ends _ _ _ _ (T12.setTop (mkF m 14 #[.val (.ref r0), .val (.int x1), .val (.int x2), .val (.int j)] []))
      have hlt : i < t := by have := c11_14; rw [own_lt, hj, ht] at this; omega
      obtain ⟨k', rfl⟩ : ∃ k', k = k' + 1 := ⟨k - 1, by omega⟩
      refine own_st (fun t_ => XS.aloadN (own_here Y13) hx rfl (hb hby own_d3_14) rfl rfl) ?_
      show own_Ends _ _ _ _ (T12.setTop (mkF m 15 #[.val (.ref r0), .val (.int x1), .val (.int x2), .val (.int j)] [(.ref r0)]))
      refine own_st (fun t_ => XS.iloadN (own_here Y13) hx rfl (hb hby own_d3_15) rfl) ?_
      show own_Ends _ _ _ _ (T12.setTop (mkF m 16 #[.val (.ref r0), .val (.int x1), .val (.int x2), .val (.int j)] [(.int j), (.ref r0)]))
      refine own_ldB Y13 hx hZ A (i := i) hj0 hj1 (own_mlen (by omega)) (v := (.int (own_g xs i))) (own_mget (own_mlen (by omega))) rfl rfl (hb hby own_d3_16) ?_
      show own_Ends _ _ _ _ (T12.setTop (mkF m 17 #[.val (.ref r0), .val (.int x1), .val (.int x2), .val (.int j)] [(.int (own_g xs i))]))
      refine own_st (fun t_ => XS.bipush (own_here Y13) hx rfl (hb hby own_d3_17) ) ?_
      show own_Ends _ _ _ _ (T12.setTop (mkF m 19 #[.val (.ref r0), .val (.int x1), .val (.int x2), .val (.int j)] [(.int (48 : Int32)), (.int (own_g xs i))]))
      by_cases c19_15 : (own_g xs i) < (48 : Int32)
      ·
       refine own_st (fun t_ => XS.icmpYes (own_here Y13) hx rfl (pc0 := 19) (pc' := 30) rfl (hb hby own_d3_19) rfl (XT.ii_lt_t c19_15) (by decide) (by decide)) ?_
       show own_Ends _ _ _ _ (T12.setTop (mkF m 30 #[.val (.ref r0), .val (.int x1), .val (.int x2), .val (.int j)] []))
       refine own_st (fun t_ => XS.iconst (own_here Y13) hx rfl (hb hby own_d3_30) ) ?_
       show own_Ends _ _ _ _ (T12.setTop (mkF m 31 #[.val (.ref r0), .val (.int x1), .val (.int x2), .val (.int j)] [(.int (0 : Int32))]))
       refine own_retN Y13 hx hlk (t := .boolean) hret (by simp) (hb hby own_d3_31) (by decide) (by decide) ?_
       refine ⟨?_, rfl⟩
       have hd : own_sdig (own_g xs i) = false := by
         have e1 : (48 : Int32).toInt = 48 := rfl
         have e2 : (57 : Int32).toInt = 57 := rfl
         have a1 := c19_15; simp only [own_lt] at a1
         simp only [own_sdig, decide_eq_false_iff_not]; omega
       have : own_isd xs f t = false := by rw [own_isd, hR0, ← hR]; simp only [own_all, hd, Bool.false_and, Bool.and_false]
       rw [this]; rfl
      ·
       refine own_st (fun t_ => XS.icmpNo (own_here Y13) hx rfl (hb hby own_d3_19) rfl (XT.ii_lt_f c19_15)) ?_
       show own_Ends _ _ _ _ (T12.setTop (mkF m 22 #[.val (.ref r0), .val (.int x1), .val (.int x2), .val (.int j)] []))
       refine own_st (fun t_ => XS.aloadN (own_here Y13) hx rfl (hb hby own_d3_22) rfl rfl) ?_
       show own_Ends _ _ _ _ (T12.setTop (mkF m 23 #[.val (.ref r0), .val (.int x1), .val (.int x2), .val (.int j)] [(.ref r0)]))
       refine own_st (fun t_ => XS.iloadN (own_here Y13) hx rfl (hb hby own_d3_23) rfl) ?_
       show own_Ends _ _ _ _ (T12.setTop (mkF m 24 #[.val (.ref r0), .val (.int x1), .val (.int x2), .val (.int j)] [(.int j), (.ref r0)]))
       refine own_ldB Y13 hx hZ A (i := i) hj0 hj1 (own_mlen (by omega)) (v := (.int (own_g xs i))) (own_mget (own_mlen (by omega))) rfl rfl (hb hby own_d3_24) ?_
       show own_Ends _ _ _ _ (T12.setTop (mkF m 25 #[.val (.ref r0), .val (.int x1), .val (.int x2), .val (.int j)] [(.int (own_g xs i))]))
       refine own_st (fun t_ => XS.bipush (own_here Y13) hx rfl (hb hby own_d3_25) ) ?_
       show own_Ends _ _ _ _ (T12.setTop (mkF m 27 #[.val (.ref r0), .val (.int x1), .val (.int x2), .val (.int j)] [(.int (57 : Int32)), (.int (own_g xs i))]))
       by_cases c27_16 : (57 : Int32) < (own_g xs i)
       ·
        refine own_st (fun t_ => XS.icmpNo (own_here Y13) hx rfl (hb hby own_d3_27) rfl (XT.ii_le_f c27_16)) ?_
        show own_Ends _ _ _ _ (T12.setTop (mkF m 30 #[.val (.ref r0), .val (.int x1), .val (.int x2), .val (.int j)] []))
        refine own_st (fun t_ => XS.iconst (own_here Y13) hx rfl (hb hby own_d3_30) ) ?_
        show own_Ends _ _ _ _ (T12.setTop (mkF m 31 #[.val (.ref r0), .val (.int x1), .val (.int x2), .val (.int j)] [(.int (0 : Int32))]))
        refine own_retN Y13 hx hlk (t := .boolean) hret (by simp) (hb hby own_d3_31) (by decide) (by decide) ?_
        refine ⟨?_, rfl⟩
        have hd : own_sdig (own_g xs i) = false := by
          have e1 : (48 : Int32).toInt = 48 := rfl
          have e2 : (57 : Int32).toInt = 57 := rfl
          have a1 := c27_16; simp only [own_lt] at a1
          simp only [own_sdig, decide_eq_false_iff_not]; omega
        have : own_isd xs f t = false := by rw [own_isd, hR0, ← hR]; simp only [own_all, hd, Bool.false_and, Bool.and_false]
        rw [this]; rfl
       ·
        refine own_st (fun t_ => XS.icmpYes (own_here Y13) hx rfl (pc0 := 27) (pc' := 32) rfl (hb hby own_d3_27) rfl (XT.ii_le_t c27_16) (by decide) (by decide)) ?_
        show own_Ends _ _ _ _ (T12.setTop (mkF m 32 #[.val (.ref r0), .val (.int x1), .val (.int x2), .val (.int j)] []))
        have hd : own_sdig (own_g xs i) = true := by
          have e1 : (48 : Int32).toInt = 48 := rfl
          have e2 : (57 : Int32).toInt = 57 := rfl
          have a1 := c19_15; have a2 := c27_16; simp only [own_lt] at a1 a2
          simp only [own_sdig, decide_eq_true_eq]; omega
        have hR2 : own_all (fun i => own_sdig (own_g xs i)) (i + 1) k' = R := by rw [← hR]; simp only [own_all, hd, Bool.true_and]
        refine own_st (fun t_ => XS.iinc (own_here Y13) hx rfl (hb hby own_d3_32) rfl (l' := #[.val (.ref r0), .val (.int x1), .val (.int x2), .val (.int (j + (1 : Int32)))]) rfl) ?_
        show own_Ends _ _ _ _ (T12.setTop (mkF m 35 #[.val (.ref r0), .val (.int x1), .val (.int x2), .val (.int (j + (1 : Int32)))] []))
        refine own_st (fun t_ => XS.goto (own_here Y13) hx rfl (pc0 := 35) (pc' := 9) rfl (hb hby own_d3_35) (by decide) (by decide)) ?_
        show own_Ends _ _ _ _ (T12.setTop (mkF m 9 #[.val (.ref r0), .val (.int x1), .val (.int x2), .val (.int (j + (1 : Int32)))] []))
        exact ih k' (by omega) T12  (i + 1) ((j + (1 : Int32))) Y13  (own_inc hj (by omega)) (by omega) hR2
     ·
      refine own_st (fun t_ => XS.icmpYes (own_here Y13) hx rfl (pc0 := 11) (pc' := 38) rfl (hb hby own_d3_11) rfl (XT.ii_ge_t c11_14) (by decide) (by decide)) ?_
      show own_Ends _ _ _ _ (T12.setTop (mkF m 38 #[.val (.ref r0), .val (.int x1), .val (.int x2), .val (.int j)] []))
      refine own_st (fun t_ => XS.iconst (own_here Y13) hx rfl (hb hby own_d3_38) ) ?_
      show own_Ends _ _ _ _ (T12.setTop (mkF m 39 #[.val (.ref r0), .val (.int x1), .val (.int x2), .val (.int j)] [(.int (1 : Int32))]))
      refine own_retN Y13 hx hlk (t := .boolean) hret (by simp) (hb hby own_d3_39) (by decide) (by decide) ?_
      refine ⟨?_, rfl⟩
      have hk : k = 0 := by have := c11_14; rw [own_lt, hj, ht] at this; omega
      subst hk
      have : own_isd xs f t = true := by rw [own_isd, hR0, ← hR]; simp [own_all, hlt0]
      rw [this]; rfl
   exact hL11 (t - f) T0  (f) (x1) Y0  hf (by omega) hR0
theorem own_pd1 : parseMethodDescriptor "([BII)Z" = some ⟨[(.array .byte), .int, .int], some .boolean⟩ := by decide +kernel
theorem own_pd2 : parseMethodDescriptor "(IIIB)Z" = some ⟨[.int, .int, .int, .byte], some .boolean⟩ := by decide +kernel
theorem own_ef_own_rm0 (m : MethodId) (x0 : Int32) (x1 : Int32) (x2 : Int32) (x3 : Int32) (x4 : Int32) (x5 : Int32) : entryFrame m #[(.int x0), (.int x1), (.int x2), (.int x3), (.int x4), (.int x5)] maxLocals = mkF m 0 #[.val (.int x0), .val (.int x1), .val (.int x2), .val (.int x3), .val (.int x4), .val (.int x5), .unset, .unset, .unset, .unset, .unset] [] := by first | (simp [entryFrame, mkF, argsToLocals, Value.category, maxLocals]; done) | rfl
def own_Q_own_rm0 (Z : State) (x0 : Int32) (x1 : Int32) (x2 : Int32) (x3 : Int32) (x4 : Int32) (x5 : Int32) (h0 : Heap) (n0 : Nat) (v : Option Value) (h : Heap) : Prop := v = some (.int 1)
set_option maxRecDepth 65536 in
set_option maxHeartbeats 40000000 in
theorem own_rm0 (l : Launch) (Z : State) (a0 : Array Value) (hw : ∀ d ∈ tables_1, d.before a0 Z = true) (ws : List Jvm.Cond) (x0 : Int32) (x1 : Int32) (x2 : Int32) (x3 : Int32) (x4 : Int32) (x5 : Int32)  (h0 : Heap) (n0 : Nat) (Z0 : n0 ≤ h0.size)  :
    own_Con l Z x code maxLocals ret ws room_1 #[(.int x0), (.int x1), (.int x2), (.int x3), (.int x4), (.int x5)] h0 n0 (own_Q_own_rm0 Z x0 x1 x2 x3 x4 x5 h0 n0) := by
  refine own_body (plainFor_of_name own_pn0) ?_
  intro p e s m below meth c T0 hx hZ hby hml hown hnm hret hlk Y0
  replace hown : s.vm.findClass "com/example/tagwire/tagwire/wire/BytesIsDigitsPinLaw" = some m.cls := hown
  replace hml : c.maxLocals = 11 := hml
  replace hret : meth.sig.returnType = some .boolean := hret
  rw [own_ef_own_rm0 m x0 x1 x2 x3 x4 x5]
  show own_Ends _ _ _ _ (T0.setTop (mkF m 0 #[.val (.int x0), .val (.int x1), .val (.int x2), .val (.int x3), .val (.int x4), .val (.int x5), .unset, .unset, .unset, .unset, .unset] []))
  refine own_st (fun t_ => XS.iconst (own_here Y0) hx rfl (hb hby at_0) ) ?_
  show own_Ends _ _ _ _ (T0.setTop (mkF m 1 #[.val (.int x0), .val (.int x1), .val (.int x2), .val (.int x3), .val (.int x4), .val (.int x5), .unset, .unset, .unset, .unset, .unset] [(.int (4 : Int32))]))
  refine own_newP Y0 hx hZ (hw _ (List.mem_of_getElem? (i := 0) rfl)) rfl (hb hby at_1) rfl (by decide) (nz := 4) (cap := 4) (by decide) (by decide) (by decide) (by decide) (by decide) (ty := .byte) rfl (fun T17 h19 b22 eb23 Y18 E20 A21 => ?_)
  have g24 : n0 ≤ b22 := by rw [eb23]; exact Z0
  replace A21 : own_A Z h19 b22 .byte [(.int (0 : Int32)), (.int (0 : Int32)), (.int (0 : Int32)), (.int (0 : Int32))] := A21
  show own_Ends _ _ _ _ (T17.setTop (mkF m 3 #[.val (.int x0), .val (.int x1), .val (.int x2), .val (.int x3), .val (.int x4), .val (.int x5), .unset, .unset, .unset, .unset, .unset] [(.ref b22)]))
  refine own_st (fun t_ => XS.dup (own_here Y18) hx rfl (hb hby at_3) rfl rfl) ?_
  show own_Ends _ _ _ _ (T17.setTop (mkF m 4 #[.val (.int x0), .val (.int x1), .val (.int x2), .val (.int x3), .val (.int x4), .val (.int x5), .unset, .unset, .unset, .unset, .unset] [(.ref b22), (.ref b22)]))
  refine own_st (fun t_ => XS.iconst (own_here Y18) hx rfl (hb hby at_4) ) ?_
  show own_Ends _ _ _ _ (T17.setTop (mkF m 5 #[.val (.int x0), .val (.int x1), .val (.int x2), .val (.int x3), .val (.int x4), .val (.int x5), .unset, .unset, .unset, .unset, .unset] [(.int (0 : Int32)), (.ref b22), (.ref b22)]))
  refine own_st (fun t_ => XS.iloadN (own_here Y18) hx rfl (hb hby at_5) rfl) ?_
  show own_Ends _ _ _ _ (T17.setTop (mkF m 6 #[.val (.int x0), .val (.int x1), .val (.int x2), .val (.int x3), .val (.int x4), .val (.int x5), .unset, .unset, .unset, .unset, .unset] [(.int x0), (.int (0 : Int32)), (.ref b22), (.ref b22)]))
  refine own_st (fun t_ => XS.i2b (own_here Y18) hx rfl (hb hby at_6) rfl) ?_
  show own_Ends _ _ _ _ (T17.setTop (mkF m 7 #[.val (.int x0), .val (.int x1), .val (.int x2), .val (.int x3), .val (.int x4), .val (.int x5), .unset, .unset, .unset, .unset, .unset] [(.int (x0.toInt8.toInt32)), (.int (0 : Int32)), (.ref b22), (.ref b22)]))
  generalize hw0 : (x0.toInt8.toInt32) = w0
  refine own_stB Y18 hx hZ A21 g24 (i := 0) (by decide) (by decide) (Nat.le_of_ble_eq_true rfl) rfl rfl (hb hby at_7) (fun T25 h27 Y26 W28 A29 => ?_)
  replace A29 : own_A Z h27 b22 .byte [(.int (w0.toInt8.toInt32)), (.int (0 : Int32)), (.int (0 : Int32)), (.int (0 : Int32))] := A29
  show own_Ends _ _ _ _ (T25.setTop (mkF m 8 #[.val (.int x0), .val (.int x1), .val (.int x2), .val (.int x3), .val (.int x4), .val (.int x5), .unset, .unset, .unset, .unset, .unset] [(.ref b22)]))
  refine own_st (fun t_ => XS.dup (own_here Y26) hx rfl (hb hby at_8) rfl rfl) ?_
  show own_Ends _ _ _ _ (T25.setTop (mkF m 9 #[.val (.int x0), .val (.int x1), .val (.int x2), .val (.int x3), .val (.int x4), .val (.int x5), .unset, .unset, .unset, .unset, .unset] [(.ref b22), (.ref b22)]))
  refine own_st (fun t_ => XS.iconst (own_here Y26) hx rfl (hb hby at_9) ) ?_
  show own_Ends _ _ _ _ (T25.setTop (mkF m 10 #[.val (.int x0), .val (.int x1), .val (.int x2), .val (.int x3), .val (.int x4), .val (.int x5), .unset, .unset, .unset, .unset, .unset] [(.int (1 : Int32)), (.ref b22), (.ref b22)]))
  refine own_st (fun t_ => XS.iloadN (own_here Y26) hx rfl (hb hby at_10) rfl) ?_
  show own_Ends _ _ _ _ (T25.setTop (mkF m 11 #[.val (.int x0), .val (.int x1), .val (.int x2), .val (.int x3), .val (.int x4), .val (.int x5), .unset, .unset, .unset, .unset, .unset] [(.int x1), (.int (1 : Int32)), (.ref b22), (.ref b22)]))
  refine own_st (fun t_ => XS.i2b (own_here Y26) hx rfl (hb hby at_11) rfl) ?_
  show own_Ends _ _ _ _ (T25.setTop (mkF m 12 #[.val (.int x0), .val (.int x1), .val (.int x2), .val (.int x3), .val (.int x4), .val (.int x5), .unset, .unset, .unset, .unset, .unset] [(.int (x1.toInt8.toInt32)), (.int (1 : Int32)), (.ref b22), (.ref b22)]))
  generalize hw1 : (x1.toInt8.toInt32) = w1
  refine own_stB Y26 hx hZ A29 g24 (i := 1) (by decide) (by decide) (Nat.le_of_ble_eq_true rfl) rfl rfl (hb hby at_12) (fun T30 h32 Y31 W33 A34 => ?_)
  replace A34 : own_A Z h32 b22 .byte [(.int (w0.toInt8.toInt32)), (.int (w1.toInt8.toInt32)), (.int (0 : Int32)), (.int (0 : Int32))] := A34
  show own_Ends _ _ _ _ (T30.setTop (mkF m 13 #[.val (.int x0), .val (.int x1), .val (.int x2), .val (.int x3), .val (.int x4), .val (.int x5), .unset, .unset, .unset, .unset, .unset] [(.ref b22)]))
  refine own_st (fun t_ => XS.dup (own_here Y31) hx rfl (hb hby at_13) rfl rfl) ?_
  show own_Ends _ _ _ _ (T30.setTop (mkF m 14 #[.val (.int x0), .val (.int x1), .val (.int x2), .val (.int x3), .val (.int x4), .val (.int x5), .unset, .unset, .unset, .unset, .unset] [(.ref b22), (.ref b22)]))
  refine own_st (fun t_ => XS.iconst (own_here Y31) hx rfl (hb hby at_14) ) ?_
  show own_Ends _ _ _ _ (T30.setTop (mkF m 15 #[.val (.int x0), .val (.int x1), .val (.int x2), .val (.int x3), .val (.int x4), .val (.int x5), .unset, .unset, .unset, .unset, .unset] [(.int (2 : Int32)), (.ref b22), (.ref b22)]))
  refine own_st (fun t_ => XS.iloadN (own_here Y31) hx rfl (hb hby at_15) rfl) ?_
  show own_Ends _ _ _ _ (T30.setTop (mkF m 16 #[.val (.int x0), .val (.int x1), .val (.int x2), .val (.int x3), .val (.int x4), .val (.int x5), .unset, .unset, .unset, .unset, .unset] [(.int x2), (.int (2 : Int32)), (.ref b22), (.ref b22)]))
  refine own_st (fun t_ => XS.i2b (own_here Y31) hx rfl (hb hby at_16) rfl) ?_
  show own_Ends _ _ _ _ (T30.setTop (mkF m 17 #[.val (.int x0), .val (.int x1), .val (.int x2), .val (.int x3), .val (.int x4), .val (.int x5), .unset, .unset, .unset, .unset, .unset] [(.int (x2.toInt8.toInt32)), (.int (2 : Int32)), (.ref b22), (.ref b22)]))
  generalize hw2 : (x2.toInt8.toInt32) = w2
  refine own_stB Y31 hx hZ A34 g24 (i := 2) (by decide) (by decide) (Nat.le_of_ble_eq_true rfl) rfl rfl (hb hby at_17) (fun T35 h37 Y36 W38 A39 => ?_)
  replace A39 : own_A Z h37 b22 .byte [(.int (w0.toInt8.toInt32)), (.int (w1.toInt8.toInt32)), (.int (w2.toInt8.toInt32)), (.int (0 : Int32))] := A39
  show own_Ends _ _ _ _ (T35.setTop (mkF m 18 #[.val (.int x0), .val (.int x1), .val (.int x2), .val (.int x3), .val (.int x4), .val (.int x5), .unset, .unset, .unset, .unset, .unset] [(.ref b22)]))
  refine own_st (fun t_ => XS.dup (own_here Y36) hx rfl (hb hby at_18) rfl rfl) ?_
  show own_Ends _ _ _ _ (T35.setTop (mkF m 19 #[.val (.int x0), .val (.int x1), .val (.int x2), .val (.int x3), .val (.int x4), .val (.int x5), .unset, .unset, .unset, .unset, .unset] [(.ref b22), (.ref b22)]))
  refine own_st (fun t_ => XS.iconst (own_here Y36) hx rfl (hb hby at_19) ) ?_
  show own_Ends _ _ _ _ (T35.setTop (mkF m 20 #[.val (.int x0), .val (.int x1), .val (.int x2), .val (.int x3), .val (.int x4), .val (.int x5), .unset, .unset, .unset, .unset, .unset] [(.int (3 : Int32)), (.ref b22), (.ref b22)]))
  refine own_st (fun t_ => XS.iloadN (own_here Y36) hx rfl (hb hby at_20) rfl) ?_
  show own_Ends _ _ _ _ (T35.setTop (mkF m 21 #[.val (.int x0), .val (.int x1), .val (.int x2), .val (.int x3), .val (.int x4), .val (.int x5), .unset, .unset, .unset, .unset, .unset] [(.int x3), (.int (3 : Int32)), (.ref b22), (.ref b22)]))
  refine own_st (fun t_ => XS.i2b (own_here Y36) hx rfl (hb hby at_21) rfl) ?_
  show own_Ends _ _ _ _ (T35.setTop (mkF m 22 #[.val (.int x0), .val (.int x1), .val (.int x2), .val (.int x3), .val (.int x4), .val (.int x5), .unset, .unset, .unset, .unset, .unset] [(.int (x3.toInt8.toInt32)), (.int (3 : Int32)), (.ref b22), (.ref b22)]))
  generalize hw3 : (x3.toInt8.toInt32) = w3
  refine own_stB Y36 hx hZ A39 g24 (i := 3) (by decide) (by decide) (Nat.le_of_ble_eq_true rfl) rfl rfl (hb hby at_22) (fun T40 h42 Y41 W43 A44 => ?_)
  replace A44 : own_A Z h42 b22 .byte [(.int (w0.toInt8.toInt32)), (.int (w1.toInt8.toInt32)), (.int (w2.toInt8.toInt32)), (.int (w3.toInt8.toInt32))] := A44
  show own_Ends _ _ _ _ (T40.setTop (mkF m 23 #[.val (.int x0), .val (.int x1), .val (.int x2), .val (.int x3), .val (.int x4), .val (.int x5), .unset, .unset, .unset, .unset, .unset] [(.ref b22)]))
  refine own_st (fun t_ => XS.astore (own_here Y41) hx rfl (hb hby at_23) rfl rfl (l' := #[.val (.int x0), .val (.int x1), .val (.int x2), .val (.int x3), .val (.int x4), .val (.int x5), .val (.ref b22), .unset, .unset, .unset, .unset]) rfl) ?_
  show own_Ends _ _ _ _ (T40.setTop (mkF m 25 #[.val (.int x0), .val (.int x1), .val (.int x2), .val (.int x3), .val (.int x4), .val (.int x5), .val (.ref b22), .unset, .unset, .unset, .unset] []))
  refine own_st (fun t_ => XS.iload (own_here Y41) hx rfl (hb hby at_25) rfl) ?_
  show own_Ends _ _ _ _ (T40.setTop (mkF m 27 #[.val (.int x0), .val (.int x1), .val (.int x2), .val (.int x3), .val (.int x4), .val (.int x5), .val (.ref b22), .unset, .unset, .unset, .unset] [(.int x4)]))
  refine own_ldcI Y41 hx hZ hown (hw _ (List.mem_of_getElem? (i := 1) rfl)) rfl (hb hby at_27) ?_
  show own_Ends _ _ _ _ (T40.setTop (mkF m 29 #[.val (.int x0), .val (.int x1), .val (.int x2), .val (.int x3), .val (.int x4), .val (.int x5), .val (.ref b22), .unset, .unset, .unset, .unset] [(.int (2147483647 : Int32)), (.int x4)]))
  refine own_st (fun t_ => XS.iand (own_here Y41) hx rfl (hb hby at_29) rfl) ?_
  show own_Ends _ _ _ _ (T40.setTop (mkF m 30 #[.val (.int x0), .val (.int x1), .val (.int x2), .val (.int x3), .val (.int x4), .val (.int x5), .val (.ref b22), .unset, .unset, .unset, .unset] [(.int (x4 &&& (2147483647 : Int32)))]))
  refine own_st (fun t_ => XS.iconst (own_here Y41) hx rfl (hb hby at_30) ) ?_
  show own_Ends _ _ _ _ (T40.setTop (mkF m 31 #[.val (.int x0), .val (.int x1), .val (.int x2), .val (.int x3), .val (.int x4), .val (.int x5), .val (.ref b22), .unset, .unset, .unset, .unset] [(.int (5 : Int32)), (.int (x4 &&& (2147483647 : Int32)))]))
  refine own_irem Y41 hx rfl (hb hby at_31) rfl (by decide) ?_
  show own_Ends _ _ _ _ (T40.setTop (mkF m 32 #[.val (.int x0), .val (.int x1), .val (.int x2), .val (.int x3), .val (.int x4), .val (.int x5), .val (.ref b22), .unset, .unset, .unset, .unset] [(.int ((x4 &&& (2147483647 : Int32)) % (5 : Int32)))]))
  refine own_st (fun t_ => XS.istore (own_here Y41) hx rfl (hb hby at_32) rfl (l' := #[.val (.int x0), .val (.int x1), .val (.int x2), .val (.int x3), .val (.int x4), .val (.int x5), .val (.ref b22), .val (.int ((x4 &&& (2147483647 : Int32)) % (5 : Int32))), .unset, .unset, .unset]) rfl) ?_
  show own_Ends _ _ _ _ (T40.setTop (mkF m 34 #[.val (.int x0), .val (.int x1), .val (.int x2), .val (.int x3), .val (.int x4), .val (.int x5), .val (.ref b22), .val (.int ((x4 &&& (2147483647 : Int32)) % (5 : Int32))), .unset, .unset, .unset] []))
  generalize ha : ((x4 &&& (2147483647 : Int32)) % (5 : Int32)) = a
  obtain ⟨f, hf, hf4⟩ : ∃ f : Nat, a.toInt = (f : Int) ∧ f ≤ 4 := by
    have q := c_mask x4 2147483647 31 (by decide) (by decide)
    have r := (c_irem (x4 &&& 2147483647) 5 5 rfl).1 (by rw [q]; exact Int.emod_nonneg _ (by decide))
    rw [ha] at r
    refine ⟨a.toInt.toNat, ?_, ?_⟩ <;> omega
  have hs : ((5 : Int32) - a).toInt = 5 - (f : Int) := by
    have q := c_isub 5 a
    have q1 : (5 : Int32).toInt = 5 := rfl
    have q2 := rng32 (5 - a)
    omega
  have hnz : ¬ ((5 : Int32) - a) = 0 := by rw [own_eq, hs]; show ¬ 5 - (f : Int) = 0; omega
  refine own_st (fun t_ => XS.iload (own_here Y41) hx rfl (hb hby at_34) rfl) ?_
  show own_Ends _ _ _ _ (T40.setTop (mkF m 36 #[.val (.int x0), .val (.int x1), .val (.int x2), .val (.int x3), .val (.int x4), .val (.int x5), .val (.ref b22), .val (.int a), .unset, .unset, .unset] [(.int a)]))
  refine own_st (fun t_ => XS.iload (own_here Y41) hx rfl (hb hby at_36) rfl) ?_
  show own_Ends _ _ _ _ (T40.setTop (mkF m 38 #[.val (.int x0), .val (.int x1), .val (.int x2), .val (.int x3), .val (.int x4), .val (.int x5), .val (.ref b22), .val (.int a), .unset, .unset, .unset] [(.int x5), (.int a)]))
  refine own_ldcI Y41 hx hZ hown (hw _ (List.mem_of_getElem? (i := 1) rfl)) rfl (hb hby at_38) ?_
  show own_Ends _ _ _ _ (T40.setTop (mkF m 40 #[.val (.int x0), .val (.int x1), .val (.int x2), .val (.int x3), .val (.int x4), .val (.int x5), .val (.ref b22), .val (.int a), .unset, .unset, .unset] [(.int (2147483647 : Int32)), (.int x5), (.int a)]))
  refine own_st (fun t_ => XS.iand (own_here Y41) hx rfl (hb hby at_40) rfl) ?_
  show own_Ends _ _ _ _ (T40.setTop (mkF m 41 #[.val (.int x0), .val (.int x1), .val (.int x2), .val (.int x3), .val (.int x4), .val (.int x5), .val (.ref b22), .val (.int a), .unset, .unset, .unset] [(.int (x5 &&& (2147483647 : Int32))), (.int a)]))
  refine own_st (fun t_ => XS.iconst (own_here Y41) hx rfl (hb hby at_41) ) ?_
  show own_Ends _ _ _ _ (T40.setTop (mkF m 42 #[.val (.int x0), .val (.int x1), .val (.int x2), .val (.int x3), .val (.int x4), .val (.int x5), .val (.ref b22), .val (.int a), .unset, .unset, .unset] [(.int (5 : Int32)), (.int (x5 &&& (2147483647 : Int32))), (.int a)]))
  refine own_st (fun t_ => XS.iload (own_here Y41) hx rfl (hb hby at_42) rfl) ?_
  show own_Ends _ _ _ _ (T40.setTop (mkF m 44 #[.val (.int x0), .val (.int x1), .val (.int x2), .val (.int x3), .val (.int x4), .val (.int x5), .val (.ref b22), .val (.int a), .unset, .unset, .unset] [(.int a), (.int (5 : Int32)), (.int (x5 &&& (2147483647 : Int32))), (.int a)]))
  refine own_st (fun t_ => XS.isub (own_here Y41) hx rfl (hb hby at_44) rfl) ?_
  show own_Ends _ _ _ _ (T40.setTop (mkF m 45 #[.val (.int x0), .val (.int x1), .val (.int x2), .val (.int x3), .val (.int x4), .val (.int x5), .val (.ref b22), .val (.int a), .unset, .unset, .unset] [(.int ((5 : Int32) - a)), (.int (x5 &&& (2147483647 : Int32))), (.int a)]))
  refine own_irem Y41 hx rfl (hb hby at_45) rfl hnz ?_
  show own_Ends _ _ _ _ (T40.setTop (mkF m 46 #[.val (.int x0), .val (.int x1), .val (.int x2), .val (.int x3), .val (.int x4), .val (.int x5), .val (.ref b22), .val (.int a), .unset, .unset, .unset] [(.int ((x5 &&& (2147483647 : Int32)) % ((5 : Int32) - a))), (.int a)]))
  refine own_st (fun t_ => XS.iadd (own_here Y41) hx rfl (hb hby at_46) rfl) ?_
  show own_Ends _ _ _ _ (T40.setTop (mkF m 47 #[.val (.int x0), .val (.int x1), .val (.int x2), .val (.int x3), .val (.int x4), .val (.int x5), .val (.ref b22), .val (.int a), .unset, .unset, .unset] [(.int (a + ((x5 &&& (2147483647 : Int32)) % ((5 : Int32) - a))))]))
  refine own_st (fun t_ => XS.istore (own_here Y41) hx rfl (hb hby at_47) rfl (l' := #[.val (.int x0), .val (.int x1), .val (.int x2), .val (.int x3), .val (.int x4), .val (.int x5), .val (.ref b22), .val (.int a), .val (.int (a + ((x5 &&& (2147483647 : Int32)) % ((5 : Int32) - a)))), .unset, .unset]) rfl) ?_
  show own_Ends _ _ _ _ (T40.setTop (mkF m 49 #[.val (.int x0), .val (.int x1), .val (.int x2), .val (.int x3), .val (.int x4), .val (.int x5), .val (.ref b22), .val (.int a), .val (.int (a + ((x5 &&& (2147483647 : Int32)) % ((5 : Int32) - a)))), .unset, .unset] []))
  generalize hb_ : (a + ((x5 &&& (2147483647 : Int32)) % ((5 : Int32) - a))) = b
  obtain ⟨t, ht, hft, ht4⟩ : ∃ t : Nat, b.toInt = (t : Int) ∧ f ≤ t ∧ t ≤ 4 := by
    have q := c_mask x5 2147483647 31 (by decide) (by decide)
    have q0 : 0 ≤ (x5 &&& 2147483647).toInt := by rw [q]; exact Int.emod_nonneg _ (by decide)
    have r := (c_iremV (x5 &&& 2147483647) (5 - a)).1 q0 (by omega)
    have s1 := c_iadd a ((x5 &&& 2147483647) % (5 - a))
    rw [hb_] at s1
    have s2 := rng32 b
    refine ⟨b.toInt.toNat, ?_, ?_, ?_⟩ <;> omega
  refine own_st (fun t_ => XS.iload (own_here Y41) hx rfl (hb hby at_49) rfl) ?_
  show own_Ends _ _ _ _ (T40.setTop (mkF m 51 #[.val (.int x0), .val (.int x1), .val (.int x2), .val (.int x3), .val (.int x4), .val (.int x5), .val (.ref b22), .val (.int a), .val (.int b), .unset, .unset] [(.int a)]))
  refine own_st (fun t_ => XS.iload (own_here Y41) hx rfl (hb hby at_51) rfl) ?_
  show own_Ends _ _ _ _ (T40.setTop (mkF m 53 #[.val (.int x0), .val (.int x1), .val (.int x2), .val (.int x3), .val (.int x4), .val (.int x5), .val (.ref b22), .val (.int a), .val (.int b), .unset, .unset] [(.int b), (.int a)]))
  have hJ45 : ∀ (T46 : State)  (v : Int32) (Y47 : own_S p l e room_1 s m #[(.int x0), (.int x1), (.int x2), (.int x3), (.int x4), (.int x5)] below meth c n0 T46 h42 1 4)  (hv : v = own_b (decide (a < b) && own_ok (0 : Int32) a b (w0.toInt8.toInt32) && own_ok (1 : Int32) a b (w1.toInt8.toInt32) && own_ok (2 : Int32) a b (w2.toInt8.toInt32) && own_ok (3 : Int32) a b (w3.toInt8.toInt32))), own_Ends p.tables e below (own_P s n0 (own_Q_own_rm0 Z x0 x1 x2 x3 x4 x5 h0 n0) room_1.cells room_1.slots) (T46.setTop (mkF m 121 #[.val (.int x0), .val (.int x1), .val (.int x2), .val (.int x3), .val (.int x4), .val (.int x5), .val (.ref b22), .val (.int a), .val (.int b), .unset, .unset] [(.int v)])) := by
   intro T46  v Y47  hv
   refine own_st (fun t_ => XS.istore (own_here Y47) hx rfl (hb hby at_121) rfl (l' := #[.val (.int x0), .val (.int x1), .val (.int x2), .val (.int x3), .val (.int x4), .val (.int x5), .val (.ref b22), .val (.int a), .val (.int b), .val (.int v), .unset]) rfl) ?_
   show own_Ends _ _ _ _ (T46.setTop (mkF m 123 #[.val (.int x0), .val (.int x1), .val (.int x2), .val (.int x3), .val (.int x4), .val (.int x5), .val (.ref b22), .val (.int a), .val (.int b), .val (.int v), .unset] []))
   refine own_st (fun t_ => XS.aload (own_here Y47) hx rfl (hb hby at_123) rfl rfl) ?_
   show own_Ends _ _ _ _ (T46.setTop (mkF m 125 #[.val (.int x0), .val (.int x1), .val (.int x2), .val (.int x3), .val (.int x4), .val (.int x5), .val (.ref b22), .val (.int a), .val (.int b), .val (.int v), .unset] [(.ref b22)]))
   refine own_st (fun t_ => XS.iload (own_here Y47) hx rfl (hb hby at_125) rfl) ?_
   show own_Ends _ _ _ _ (T46.setTop (mkF m 127 #[.val (.int x0), .val (.int x1), .val (.int x2), .val (.int x3), .val (.int x4), .val (.int x5), .val (.ref b22), .val (.int a), .val (.int b), .val (.int v), .unset] [(.int a), (.ref b22)]))
   refine own_st (fun t_ => XS.iload (own_here Y47) hx rfl (hb hby at_127) rfl) ?_
   show own_Ends _ _ _ _ (T46.setTop (mkF m 129 #[.val (.int x0), .val (.int x1), .val (.int x2), .val (.int x3), .val (.int x4), .val (.int x5), .val (.ref b22), .val (.int a), .val (.int b), .val (.int v), .unset] [(.int b), (.int a), (.ref b22)]))
   refine own_callS Y47 hx hZ (y := (⟨"com/example/tagwire/tagwire/wire/Bytes", "isDigits", "([BII)Z"⟩ : MethodName)) hown (hw _ (List.mem_of_getElem? (i := 9) rfl)) (hw _ (List.mem_of_getElem? (i := 10) rfl)) (hw _ (List.mem_of_getElem? (i := 11) rfl)) (hw _ (List.mem_of_getElem? (i := 12) rfl)) (by decide) (argsL := [(.ref b22), (.int a), (.int b)]) (rest := []) (own_rm3 l Z a0 hw [] b22 a b [(w0.toInt8.toInt32), (w1.toInt8.toInt32), (w2.toInt8.toInt32), (w3.toInt8.toInt32)] f t h42 n0  A44 hf ht hft (by simpa using ht4) (by omega)) (W := 0) (by decide) (by decide) (by decide) (by decide) rfl (by rw [hml]; rfl) (lenOf own_pd1 rfl) rfl (by show 2 * 0 + _ ≤ _; exact Nat.le_of_eq rfl) (hb hby at_129) (fun T48 h50 v51 Y49 q52 => ?_)
   obtain ⟨rfl, rfl⟩ := q52
   show own_Ends _ _ _ _ (T48.setTop (mkF m 132 #[.val (.int x0), .val (.int x1), .val (.int x2), .val (.int x3), .val (.int x4), .val (.int x5), .val (.ref b22), .val (.int a), .val (.int b), .val (.int v), .unset] [(.int (own_b (own_isd [(w0.toInt8.toInt32), (w1.toInt8.toInt32), (w2.toInt8.toInt32), (w3.toInt8.toInt32)] f t)))]))
   refine own_st (fun t_ => XS.istore (own_here Y49) hx rfl (hb hby at_132) rfl (l' := #[.val (.int x0), .val (.int x1), .val (.int x2), .val (.int x3), .val (.int x4), .val (.int x5), .val (.ref b22), .val (.int a), .val (.int b), .val (.int v), .val (.int (own_b (own_isd [(w0.toInt8.toInt32), (w1.toInt8.toInt32), (w2.toInt8.toInt32), (w3.toInt8.toInt32)] f t)))]) rfl) ?_
   show own_Ends _ _ _ _ (T48.setTop (mkF m 134 #[.val (.int x0), .val (.int x1), .val (.int x2), .val (.int x3), .val (.int x4), .val (.int x5), .val (.ref b22), .val (.int a), .val (.int b), .val (.int v), .val (.int (own_b (own_isd [(w0.toInt8.toInt32), (w1.toInt8.toInt32), (w2.toInt8.toInt32), (w3.toInt8.toInt32)] f t)))] []))
   refine own_st (fun t_ => XS.iload (own_here Y49) hx rfl (hb hby at_134) rfl) ?_
   show own_Ends _ _ _ _ (T48.setTop (mkF m 136 #[.val (.int x0), .val (.int x1), .val (.int x2), .val (.int x3), .val (.int x4), .val (.int x5), .val (.ref b22), .val (.int a), .val (.int b), .val (.int v), .val (.int (own_b (own_isd [(w0.toInt8.toInt32), (w1.toInt8.toInt32), (w2.toInt8.toInt32), (w3.toInt8.toInt32)] f t)))] [(.int (own_b (own_isd [(w0.toInt8.toInt32), (w1.toInt8.toInt32), (w2.toInt8.toInt32), (w3.toInt8.toInt32)] f t)))]))
   refine own_st (fun t_ => XS.iload (own_here Y49) hx rfl (hb hby at_136) rfl) ?_
   show own_Ends _ _ _ _ (T48.setTop (mkF m 138 #[.val (.int x0), .val (.int x1), .val (.int x2), .val (.int x3), .val (.int x4), .val (.int x5), .val (.ref b22), .val (.int a), .val (.int b), .val (.int v), .val (.int (own_b (own_isd [(w0.toInt8.toInt32), (w1.toInt8.toInt32), (w2.toInt8.toInt32), (w3.toInt8.toInt32)] f t)))] [(.int v), (.int (own_b (own_isd [(w0.toInt8.toInt32), (w1.toInt8.toInt32), (w2.toInt8.toInt32), (w3.toInt8.toInt32)] f t)))]))
   have hlaw := own_law (w0.toInt8.toInt32) (w1.toInt8.toInt32) (w2.toInt8.toInt32) (w3.toInt8.toInt32) a b f t hf ht hft ht4 (own_dig_eq _) (own_dig_eq _) (own_dig_eq _) (own_dig_eq _)
   refine own_st (fun t_ => XS.icmpNo (own_here Y49) hx rfl (hb hby at_138) rfl (XT.ii_ne_f (by rw [hv, hlaw]))) ?_
   show own_Ends _ _ _ _ (T48.setTop (mkF m 141 #[.val (.int x0), .val (.int x1), .val (.int x2), .val (.int x3), .val (.int x4), .val (.int x5), .val (.ref b22), .val (.int a), .val (.int b), .val (.int v), .val (.int (own_b (own_isd [(w0.toInt8.toInt32), (w1.toInt8.toInt32), (w2.toInt8.toInt32), (w3.toInt8.toInt32)] f t)))] []))
   refine own_st (fun t_ => XS.iconst (own_here Y49) hx rfl (hb hby at_141) ) ?_
   show own_Ends _ _ _ _ (T48.setTop (mkF m 142 #[.val (.int x0), .val (.int x1), .val (.int x2), .val (.int x3), .val (.int x4), .val (.int x5), .val (.ref b22), .val (.int a), .val (.int b), .val (.int v), .val (.int (own_b (own_isd [(w0.toInt8.toInt32), (w1.toInt8.toInt32), (w2.toInt8.toInt32), (w3.toInt8.toInt32)] f t)))] [(.int (1 : Int32))]))
   refine own_st (fun t_ => XS.goto (own_here Y49) hx rfl (pc0 := 142) (pc' := 146) rfl (hb hby at_142) (by decide) (by decide)) ?_
   show own_Ends _ _ _ _ (T48.setTop (mkF m 146 #[.val (.int x0), .val (.int x1), .val (.int x2), .val (.int x3), .val (.int x4), .val (.int x5), .val (.ref b22), .val (.int a), .val (.int b), .val (.int v), .val (.int (own_b (own_isd [(w0.toInt8.toInt32), (w1.toInt8.toInt32), (w2.toInt8.toInt32), (w3.toInt8.toInt32)] f t)))] [(.int (1 : Int32))]))
   refine own_retN Y49 hx hlk (t := .boolean) hret (by simp) (hb hby at_146) (by decide) (by decide) ?_
   exact rfl
  by_cases c53_53 : a < b
  ·
   refine own_st (fun t_ => XS.icmpNo (own_here Y41) hx rfl (hb hby at_53) rfl (XT.ii_ge_f c53_53)) ?_
   show own_Ends _ _ _ _ (T40.setTop (mkF m 56 #[.val (.int x0), .val (.int x1), .val (.int x2), .val (.int x3), .val (.int x4), .val (.int x5), .val (.ref b22), .val (.int a), .val (.int b), .unset, .unset] []))
   refine own_st (fun t_ => XS.iconst (own_here Y41) hx rfl (hb hby at_56) ) ?_
   show own_Ends _ _ _ _ (T40.setTop (mkF m 57 #[.val (.int x0), .val (.int x1), .val (.int x2), .val (.int x3), .val (.int x4), .val (.int x5), .val (.ref b22), .val (.int a), .val (.int b), .unset, .unset] [(.int (0 : Int32))]))
   refine own_st (fun t_ => XS.iload (own_here Y41) hx rfl (hb hby at_57) rfl) ?_
   show own_Ends _ _ _ _ (T40.setTop (mkF m 59 #[.val (.int x0), .val (.int x1), .val (.int x2), .val (.int x3), .val (.int x4), .val (.int x5), .val (.ref b22), .val (.int a), .val (.int b), .unset, .unset] [(.int a), (.int (0 : Int32))]))
   refine own_st (fun t_ => XS.iload (own_here Y41) hx rfl (hb hby at_59) rfl) ?_
   show own_Ends _ _ _ _ (T40.setTop (mkF m 61 #[.val (.int x0), .val (.int x1), .val (.int x2), .val (.int x3), .val (.int x4), .val (.int x5), .val (.ref b22), .val (.int a), .val (.int b), .unset, .unset] [(.int b), (.int a), (.int (0 : Int32))]))
   refine own_st (fun t_ => XS.aload (own_here Y41) hx rfl (hb hby at_61) rfl rfl) ?_
   show own_Ends _ _ _ _ (T40.setTop (mkF m 63 #[.val (.int x0), .val (.int x1), .val (.int x2), .val (.int x3), .val (.int x4), .val (.int x5), .val (.ref b22), .val (.int a), .val (.int b), .unset, .unset] [(.ref b22), (.int b), (.int a), (.int (0 : Int32))]))
   refine own_st (fun t_ => XS.iconst (own_here Y41) hx rfl (hb hby at_63) ) ?_
   show own_Ends _ _ _ _ (T40.setTop (mkF m 64 #[.val (.int x0), .val (.int x1), .val (.int x2), .val (.int x3), .val (.int x4), .val (.int x5), .val (.ref b22), .val (.int a), .val (.int b), .unset, .unset] [(.int (0 : Int32)), (.ref b22), (.int b), (.int a), (.int (0 : Int32))]))
   refine own_ldB Y41 hx hZ A44 (i := 0) (by decide) (by decide) (Nat.le_of_ble_eq_true rfl) (v := (.int (w0.toInt8.toInt32))) rfl rfl rfl (hb hby at_64) ?_
   show own_Ends _ _ _ _ (T40.setTop (mkF m 65 #[.val (.int x0), .val (.int x1), .val (.int x2), .val (.int x3), .val (.int x4), .val (.int x5), .val (.ref b22), .val (.int a), .val (.int b), .unset, .unset] [(.int (w0.toInt8.toInt32)), (.int b), (.int a), (.int (0 : Int32))]))
   refine own_callS Y41 hx hZ (y := (⟨"com/example/tagwire/tagwire/wire/BytesIsDigitsPinLaw", "ok", "(IIIB)Z"⟩ : MethodName)) hown (hw _ (List.mem_of_getElem? (i := 2) rfl)) (hw _ (List.mem_of_getElem? (i := 3) rfl)) (hw _ (List.mem_of_getElem? (i := 4) rfl)) (hw _ (List.mem_of_getElem? (i := 5) rfl)) (by decide) (argsL := [(.int (0 : Int32)), (.int a), (.int b), (.int (w0.toInt8.toInt32))]) (rest := []) (own_rm1 l Z a0 hw [] (0 : Int32) a b (w0.toInt8.toInt32)  h42 n0  ) (W := 0) (by decide) (by decide) (by decide) (by decide) rfl (by rw [hml]; rfl) (lenOf own_pd2 rfl) rfl (by show 2 * 0 + _ ≤ _; exact Nat.le_of_eq rfl) (hb hby at_65) (fun T54 h56 v57 Y55 q58 => ?_)
   obtain ⟨rfl, rfl⟩ := q58
   show own_Ends _ _ _ _ (T54.setTop (mkF m 68 #[.val (.int x0), .val (.int x1), .val (.int x2), .val (.int x3), .val (.int x4), .val (.int x5), .val (.ref b22), .val (.int a), .val (.int b), .unset, .unset] [(.int (own_b (own_ok (0 : Int32) a b (w0.toInt8.toInt32))))]))
   by_cases c68_59 : (own_b (own_ok (0 : Int32) a b (w0.toInt8.toInt32))) = (0 : Int32)
   ·
    refine own_st (fun t_ => XS.ifYes (own_here Y55) hx rfl (pc0 := 68) (pc' := 120) rfl (hb hby at_68) rfl (XT.i0_eq_t c68_59) (by decide) (by decide)) ?_
    show own_Ends _ _ _ _ (T54.setTop (mkF m 120 #[.val (.int x0), .val (.int x1), .val (.int x2), .val (.int x3), .val (.int x4), .val (.int x5), .val (.ref b22), .val (.int a), .val (.int b), .unset, .unset] []))
    refine own_st (fun t_ => XS.iconst (own_here Y55) hx rfl (hb hby at_120) ) ?_
    show own_Ends _ _ _ _ (T54.setTop (mkF m 121 #[.val (.int x0), .val (.int x1), .val (.int x2), .val (.int x3), .val (.int x4), .val (.int x5), .val (.ref b22), .val (.int a), .val (.int b), .unset, .unset] [(.int (0 : Int32))]))
    exact hJ45 T54   ((0 : Int32)) Y55  (by simp only [own_b_0, Bool.not_eq_false] at c53_53 c68_59; simp [own_b, c53_53, c68_59])
   ·
    refine own_st (fun t_ => XS.ifNo (own_here Y55) hx rfl (hb hby at_68) rfl (XT.i0_eq_f c68_59)) ?_
    show own_Ends _ _ _ _ (T54.setTop (mkF m 71 #[.val (.int x0), .val (.int x1), .val (.int x2), .val (.int x3), .val (.int x4), .val (.int x5), .val (.ref b22), .val (.int a), .val (.int b), .unset, .unset] []))
    refine own_st (fun t_ => XS.iconst (own_here Y55) hx rfl (hb hby at_71) ) ?_
    show own_Ends _ _ _ _ (T54.setTop (mkF m 72 #[.val (.int x0), .val (.int x1), .val (.int x2), .val (.int x3), .val (.int x4), .val (.int x5), .val (.ref b22), .val (.int a), .val (.int b), .unset, .unset] [(.int (1 : Int32))]))
    refine own_st (fun t_ => XS.iload (own_here Y55) hx rfl (hb hby at_72) rfl) ?_
    show own_Ends _ _ _ _ (T54.setTop (mkF m 74 #[.val (.int x0), .val (.int x1), .val (.int x2), .val (.int x3), .val (.int x4), .val (.int x5), .val (.ref b22), .val (.int a), .val (.int b), .unset, .unset] [(.int a), (.int (1 : Int32))]))
    refine own_st (fun t_ => XS.iload (own_here Y55) hx rfl (hb hby at_74) rfl) ?_
    show own_Ends _ _ _ _ (T54.setTop (mkF m 76 #[.val (.int x0), .val (.int x1), .val (.int x2), .val (.int x3), .val (.int x4), .val (.int x5), .val (.ref b22), .val (.int a), .val (.int b), .unset, .unset] [(.int b), (.int a), (.int (1 : Int32))]))
    refine own_st (fun t_ => XS.aload (own_here Y55) hx rfl (hb hby at_76) rfl rfl) ?_
    show own_Ends _ _ _ _ (T54.setTop (mkF m 78 #[.val (.int x0), .val (.int x1), .val (.int x2), .val (.int x3), .val (.int x4), .val (.int x5), .val (.ref b22), .val (.int a), .val (.int b), .unset, .unset] [(.ref b22), (.int b), (.int a), (.int (1 : Int32))]))
    refine own_st (fun t_ => XS.iconst (own_here Y55) hx rfl (hb hby at_78) ) ?_
    show own_Ends _ _ _ _ (T54.setTop (mkF m 79 #[.val (.int x0), .val (.int x1), .val (.int x2), .val (.int x3), .val (.int x4), .val (.int x5), .val (.ref b22), .val (.int a), .val (.int b), .unset, .unset] [(.int (1 : Int32)), (.ref b22), (.int b), (.int a), (.int (1 : Int32))]))
    refine own_ldB Y55 hx hZ A44 (i := 1) (by decide) (by decide) (Nat.le_of_ble_eq_true rfl) (v := (.int (w1.toInt8.toInt32))) rfl rfl rfl (hb hby at_79) ?_
    show own_Ends _ _ _ _ (T54.setTop (mkF m 80 #[.val (.int x0), .val (.int x1), .val (.int x2), .val (.int x3), .val (.int x4), .val (.int x5), .val (.ref b22), .val (.int a), .val (.int b), .unset, .unset] [(.int (w1.toInt8.toInt32)), (.int b), (.int a), (.int (1 : Int32))]))
    refine own_callS Y55 hx hZ (y := (⟨"com/example/tagwire/tagwire/wire/BytesIsDigitsPinLaw", "ok", "(IIIB)Z"⟩ : MethodName)) hown (hw _ (List.mem_of_getElem? (i := 2) rfl)) (hw _ (List.mem_of_getElem? (i := 3) rfl)) (hw _ (List.mem_of_getElem? (i := 4) rfl)) (hw _ (List.mem_of_getElem? (i := 5) rfl)) (by decide) (argsL := [(.int (1 : Int32)), (.int a), (.int b), (.int (w1.toInt8.toInt32))]) (rest := []) (own_rm1 l Z a0 hw [] (1 : Int32) a b (w1.toInt8.toInt32)  h42 n0  ) (W := 0) (by decide) (by decide) (by decide) (by decide) rfl (by rw [hml]; rfl) (lenOf own_pd2 rfl) rfl (by show 2 * 0 + _ ≤ _; exact Nat.le_of_eq rfl) (hb hby at_80) (fun T60 h62 v63 Y61 q64 => ?_)
    obtain ⟨rfl, rfl⟩ := q64
    show own_Ends _ _ _ _ (T60.setTop (mkF m 83 #[.val (.int x0), .val (.int x1), .val (.int x2), .val (.int x3), .val (.int x4), .val (.int x5), .val (.ref b22), .val (.int a), .val (.int b), .unset, .unset] [(.int (own_b (own_ok (1 : Int32) a b (w1.toInt8.toInt32))))]))
    by_cases c83_65 : (own_b (own_ok (1 : Int32) a b (w1.toInt8.toInt32))) = (0 : Int32)
    ·
     refine own_st (fun t_ => XS.ifYes (own_here Y61) hx rfl (pc0 := 83) (pc' := 120) rfl (hb hby at_83) rfl (XT.i0_eq_t c83_65) (by decide) (by decide)) ?_
     show own_Ends _ _ _ _ (T60.setTop (mkF m 120 #[.val (.int x0), .val (.int x1), .val (.int x2), .val (.int x3), .val (.int x4), .val (.int x5), .val (.ref b22), .val (.int a), .val (.int b), .unset, .unset] []))
     refine own_st (fun t_ => XS.iconst (own_here Y61) hx rfl (hb hby at_120) ) ?_
     show own_Ends _ _ _ _ (T60.setTop (mkF m 121 #[.val (.int x0), .val (.int x1), .val (.int x2), .val (.int x3), .val (.int x4), .val (.int x5), .val (.ref b22), .val (.int a), .val (.int b), .unset, .unset] [(.int (0 : Int32))]))
     exact hJ45 T60   ((0 : Int32)) Y61  (by simp only [own_b_0, Bool.not_eq_false] at c53_53 c68_59 c83_65; simp [own_b, c53_53, c68_59, c83_65])
    ·
     refine own_st (fun t_ => XS.ifNo (own_here Y61) hx rfl (hb hby at_83) rfl (XT.i0_eq_f c83_65)) ?_
     show own_Ends _ _ _ _ (T60.setTop (mkF m 86 #[.val (.int x0), .val (.int x1), .val (.int x2), .val (.int x3), .val (.int x4), .val (.int x5), .val (.ref b22), .val (.int a), .val (.int b), .unset, .unset] []))
     refine own_st (fun t_ => XS.iconst (own_here Y61) hx rfl (hb hby at_86) ) ?_
     show own_Ends _ _ _ _ (T60.setTop (mkF m 87 #[.val (.int x0), .val (.int x1), .val (.int x2), .val (.int x3), .val (.int x4), .val (.int x5), .val (.ref b22), .val (.int a), .val (.int b), .unset, .unset] [(.int (2 : Int32))]))
     refine own_st (fun t_ => XS.iload (own_here Y61) hx rfl (hb hby at_87) rfl) ?_
     show own_Ends _ _ _ _ (T60.setTop (mkF m 89 #[.val (.int x0), .val (.int x1), .val (.int x2), .val (.int x3), .val (.int x4), .val (.int x5), .val (.ref b22), .val (.int a), .val (.int b), .unset, .unset] [(.int a), (.int (2 : Int32))]))
     refine own_st (fun t_ => XS.iload (own_here Y61) hx rfl (hb hby at_89) rfl) ?_
     show own_Ends _ _ _ _ (T60.setTop (mkF m 91 #[.val (.int x0), .val (.int x1), .val (.int x2), .val (.int x3), .val (.int x4), .val (.int x5), .val (.ref b22), .val (.int a), .val (.int b), .unset, .unset] [(.int b), (.int a), (.int (2 : Int32))]))
     refine own_st (fun t_ => XS.aload (own_here Y61) hx rfl (hb hby at_91) rfl rfl) ?_
     show own_Ends _ _ _ _ (T60.setTop (mkF m 93 #[.val (.int x0), .val (.int x1), .val (.int x2), .val (.int x3), .val (.int x4), .val (.int x5), .val (.ref b22), .val (.int a), .val (.int b), .unset, .unset] [(.ref b22), (.int b), (.int a), (.int (2 : Int32))]))
     refine own_st (fun t_ => XS.iconst (own_here Y61) hx rfl (hb hby at_93) ) ?_
     show own_Ends _ _ _ _ (T60.setTop (mkF m 94 #[.val (.int x0), .val (.int x1), .val (.int x2), .val (.int x3), .val (.int x4), .val (.int x5), .val (.ref b22), .val (.int a), .val (.int b), .unset, .unset] [(.int (2 : Int32)), (.ref b22), (.int b), (.int a), (.int (2 : Int32))]))
     refine own_ldB Y61 hx hZ A44 (i := 2) (by decide) (by decide) (Nat.le_of_ble_eq_true rfl) (v := (.int (w2.toInt8.toInt32))) rfl rfl rfl (hb hby at_94) ?_
     show own_Ends _ _ _ _ (T60.setTop (mkF m 95 #[.val (.int x0), .val (.int x1), .val (.int x2), .val (.int x3), .val (.int x4), .val (.int x5), .val (.ref b22), .val (.int a), .val (.int b), .unset, .unset] [(.int (w2.toInt8.toInt32)), (.int b), (.int a), (.int (2 : Int32))]))
     refine own_callS Y61 hx hZ (y := (⟨"com/example/tagwire/tagwire/wire/BytesIsDigitsPinLaw", "ok", "(IIIB)Z"⟩ : MethodName)) hown (hw _ (List.mem_of_getElem? (i := 2) rfl)) (hw _ (List.mem_of_getElem? (i := 3) rfl)) (hw _ (List.mem_of_getElem? (i := 4) rfl)) (hw _ (List.mem_of_getElem? (i := 5) rfl)) (by decide) (argsL := [(.int (2 : Int32)), (.int a), (.int b), (.int (w2.toInt8.toInt32))]) (rest := []) (own_rm1 l Z a0 hw [] (2 : Int32) a b (w2.toInt8.toInt32)  h42 n0  ) (W := 0) (by decide) (by decide) (by decide) (by decide) rfl (by rw [hml]; rfl) (lenOf own_pd2 rfl) rfl (by show 2 * 0 + _ ≤ _; exact Nat.le_of_eq rfl) (hb hby at_95) (fun T66 h68 v69 Y67 q70 => ?_)
     obtain ⟨rfl, rfl⟩ := q70
     show own_Ends _ _ _ _ (T66.setTop (mkF m 98 #[.val (.int x0), .val (.int x1), .val (.int x2), .val (.int x3), .val (.int x4), .val (.int x5), .val (.ref b22), .val (.int a), .val (.int b), .unset, .unset] [(.int (own_b (own_ok (2 : Int32) a b (w2.toInt8.toInt32))))]))
     by_cases c98_71 : (own_b (own_ok (2 : Int32) a b (w2.toInt8.toInt32))) = (0 : Int32)
     ·
      refine own_st (fun t_ => XS.ifYes (own_here Y67) hx rfl (pc0 := 98) (pc' := 120) rfl (hb hby at_98) rfl (XT.i0_eq_t c98_71) (by decide) (by decide)) ?_
      show own_Ends _ _ _ _ (T66.setTop (mkF m 120 #[.val (.int x0), .val (.int x1), .val (.int x2), .val (.int x3), .val (.int x4), .val (.int x5), .val (.ref b22), .val (.int a), .val (.int b), .unset, .unset] []))
      refine own_st (fun t_ => XS.iconst (own_here Y67) hx rfl (hb hby at_120) ) ?_
      show own_Ends _ _ _ _ (T66.setTop (mkF m 121 #[.val (.int x0), .val (.int x1), .val (.int x2), .val (.int x3), .val (.int x4), .val (.int x5), .val (.ref b22), .val (.int a), .val (.int b), .unset, .unset] [(.int (0 : Int32))]))
      exact hJ45 T66   ((0 : Int32)) Y67  (by simp only [own_b_0, Bool.not_eq_false] at c53_53 c68_59 c83_65 c98_71; simp [own_b, c53_53, c68_59, c83_65, c98_71])
     ·
      refine own_st (fun t_ => XS.ifNo (own_here Y67) hx rfl (hb hby at_98) rfl (XT.i0_eq_f c98_71)) ?_
      show own_Ends _ _ _ _ (T66.setTop (mkF m 101 #[.val (.int x0), .val (.int x1), .val (.int x2), .val (.int x3), .val (.int x4), .val (.int x5), .val (.ref b22), .val (.int a), .val (.int b), .unset, .unset] []))
      refine own_st (fun t_ => XS.iconst (own_here Y67) hx rfl (hb hby at_101) ) ?_
      show own_Ends _ _ _ _ (T66.setTop (mkF m 102 #[.val (.int x0), .val (.int x1), .val (.int x2), .val (.int x3), .val (.int x4), .val (.int x5), .val (.ref b22), .val (.int a), .val (.int b), .unset, .unset] [(.int (3 : Int32))]))
      refine own_st (fun t_ => XS.iload (own_here Y67) hx rfl (hb hby at_102) rfl) ?_
      show own_Ends _ _ _ _ (T66.setTop (mkF m 104 #[.val (.int x0), .val (.int x1), .val (.int x2), .val (.int x3), .val (.int x4), .val (.int x5), .val (.ref b22), .val (.int a), .val (.int b), .unset, .unset] [(.int a), (.int (3 : Int32))]))
      refine own_st (fun t_ => XS.iload (own_here Y67) hx rfl (hb hby at_104) rfl) ?_
      show own_Ends _ _ _ _ (T66.setTop (mkF m 106 #[.val (.int x0), .val (.int x1), .val (.int x2), .val (.int x3), .val (.int x4), .val (.int x5), .val (.ref b22), .val (.int a), .val (.int b), .unset, .unset] [(.int b), (.int a), (.int (3 : Int32))]))
      refine own_st (fun t_ => XS.aload (own_here Y67) hx rfl (hb hby at_106) rfl rfl) ?_
      show own_Ends _ _ _ _ (T66.setTop (mkF m 108 #[.val (.int x0), .val (.int x1), .val (.int x2), .val (.int x3), .val (.int x4), .val (.int x5), .val (.ref b22), .val (.int a), .val (.int b), .unset, .unset] [(.ref b22), (.int b), (.int a), (.int (3 : Int32))]))
      refine own_st (fun t_ => XS.iconst (own_here Y67) hx rfl (hb hby at_108) ) ?_
      show own_Ends _ _ _ _ (T66.setTop (mkF m 109 #[.val (.int x0), .val (.int x1), .val (.int x2), .val (.int x3), .val (.int x4), .val (.int x5), .val (.ref b22), .val (.int a), .val (.int b), .unset, .unset] [(.int (3 : Int32)), (.ref b22), (.int b), (.int a), (.int (3 : Int32))]))
      refine own_ldB Y67 hx hZ A44 (i := 3) (by decide) (by decide) (Nat.le_of_ble_eq_true rfl) (v := (.int (w3.toInt8.toInt32))) rfl rfl rfl (hb hby at_109) ?_
      show own_Ends _ _ _ _ (T66.setTop (mkF m 110 #[.val (.int x0), .val (.int x1), .val (.int x2), .val (.int x3), .val (.int x4), .val (.int x5), .val (.ref b22), .val (.int a), .val (.int b), .unset, .unset] [(.int (w3.toInt8.toInt32)), (.int b), (.int a), (.int (3 : Int32))]))
      refine own_callS Y67 hx hZ (y := (⟨"com/example/tagwire/tagwire/wire/BytesIsDigitsPinLaw", "ok", "(IIIB)Z"⟩ : MethodName)) hown (hw _ (List.mem_of_getElem? (i := 2) rfl)) (hw _ (List.mem_of_getElem? (i := 3) rfl)) (hw _ (List.mem_of_getElem? (i := 4) rfl)) (hw _ (List.mem_of_getElem? (i := 5) rfl)) (by decide) (argsL := [(.int (3 : Int32)), (.int a), (.int b), (.int (w3.toInt8.toInt32))]) (rest := []) (own_rm1 l Z a0 hw [] (3 : Int32) a b (w3.toInt8.toInt32)  h42 n0  ) (W := 0) (by decide) (by decide) (by decide) (by decide) rfl (by rw [hml]; rfl) (lenOf own_pd2 rfl) rfl (by show 2 * 0 + _ ≤ _; exact Nat.le_of_eq rfl) (hb hby at_110) (fun T72 h74 v75 Y73 q76 => ?_)
      obtain ⟨rfl, rfl⟩ := q76
      show own_Ends _ _ _ _ (T72.setTop (mkF m 113 #[.val (.int x0), .val (.int x1), .val (.int x2), .val (.int x3), .val (.int x4), .val (.int x5), .val (.ref b22), .val (.int a), .val (.int b), .unset, .unset] [(.int (own_b (own_ok (3 : Int32) a b (w3.toInt8.toInt32))))]))
      by_cases c113_77 : (own_b (own_ok (3 : Int32) a b (w3.toInt8.toInt32))) = (0 : Int32)
      ·
       refine own_st (fun t_ => XS.ifYes (own_here Y73) hx rfl (pc0 := 113) (pc' := 120) rfl (hb hby at_113) rfl (XT.i0_eq_t c113_77) (by decide) (by decide)) ?_
       show own_Ends _ _ _ _ (T72.setTop (mkF m 120 #[.val (.int x0), .val (.int x1), .val (.int x2), .val (.int x3), .val (.int x4), .val (.int x5), .val (.ref b22), .val (.int a), .val (.int b), .unset, .unset] []))
       refine own_st (fun t_ => XS.iconst (own_here Y73) hx rfl (hb hby at_120) ) ?_
       show own_Ends _ _ _ _ (T72.setTop (mkF m 121 #[.val (.int x0), .val (.int x1), .val (.int x2), .val (.int x3), .val (.int x4), .val (.int x5), .val (.ref b22), .val (.int a), .val (.int b), .unset, .unset] [(.int (0 : Int32))]))
       exact hJ45 T72   ((0 : Int32)) Y73  (by simp only [own_b_0, Bool.not_eq_false] at c53_53 c68_59 c83_65 c98_71 c113_77; simp [own_b, c53_53, c68_59, c83_65, c98_71, c113_77])
      ·
       refine own_st (fun t_ => XS.ifNo (own_here Y73) hx rfl (hb hby at_113) rfl (XT.i0_eq_f c113_77)) ?_
       show own_Ends _ _ _ _ (T72.setTop (mkF m 116 #[.val (.int x0), .val (.int x1), .val (.int x2), .val (.int x3), .val (.int x4), .val (.int x5), .val (.ref b22), .val (.int a), .val (.int b), .unset, .unset] []))
       refine own_st (fun t_ => XS.iconst (own_here Y73) hx rfl (hb hby at_116) ) ?_
       show own_Ends _ _ _ _ (T72.setTop (mkF m 117 #[.val (.int x0), .val (.int x1), .val (.int x2), .val (.int x3), .val (.int x4), .val (.int x5), .val (.ref b22), .val (.int a), .val (.int b), .unset, .unset] [(.int (1 : Int32))]))
       refine own_st (fun t_ => XS.goto (own_here Y73) hx rfl (pc0 := 117) (pc' := 121) rfl (hb hby at_117) (by decide) (by decide)) ?_
       show own_Ends _ _ _ _ (T72.setTop (mkF m 121 #[.val (.int x0), .val (.int x1), .val (.int x2), .val (.int x3), .val (.int x4), .val (.int x5), .val (.ref b22), .val (.int a), .val (.int b), .unset, .unset] [(.int (1 : Int32))]))
       exact hJ45 T72   ((1 : Int32)) Y73  (by simp only [own_b_0, Bool.not_eq_false] at c53_53 c68_59 c83_65 c98_71 c113_77; simp [own_b, c53_53, c68_59, c83_65, c98_71, c113_77])
  ·
   refine own_st (fun t_ => XS.icmpYes (own_here Y41) hx rfl (pc0 := 53) (pc' := 120) rfl (hb hby at_53) rfl (XT.ii_ge_t c53_53) (by decide) (by decide)) ?_
   show own_Ends _ _ _ _ (T40.setTop (mkF m 120 #[.val (.int x0), .val (.int x1), .val (.int x2), .val (.int x3), .val (.int x4), .val (.int x5), .val (.ref b22), .val (.int a), .val (.int b), .unset, .unset] []))
   refine own_st (fun t_ => XS.iconst (own_here Y41) hx rfl (hb hby at_120) ) ?_
   show own_Ends _ _ _ _ (T40.setTop (mkF m 121 #[.val (.int x0), .val (.int x1), .val (.int x2), .val (.int x3), .val (.int x4), .val (.int x5), .val (.ref b22), .val (.int a), .val (.int b), .unset, .unset] [(.int (0 : Int32))]))
   exact hJ45 T40   ((0 : Int32)) Y41  (by simp [own_b, c53_53])
set_option maxRecDepth 65536 in
set_option maxHeartbeats 40000000 in
theorem own_comes_1 {Post : Tables → Env → Array Value → State → Outcome → State → Prop} (hpost : ∀ tb e args s v u, (limb_1_1.after args s (.returned v) u = true ∧ limb_1_2.after args s (.returned v) u = true ∧ True) → FrameEnd s (.returned v) u (Jvm.fieldLocs frame_1_writes args s ++ Jvm.arrayLocs frame_1_arrays args s ++ Jvm.staticLocs frame_1_statics s) 16 128 → Post tb e args s (.returned v) u) :
    ArmFor flags0 classFile x code maxLocals ret World_1 tables_1 room_1 Calls_1 rest_1 Pre_1 Post := by
  intro l hfl _ _ p e ha hc hk s m args below hf hA hF happ hP
  obtain ⟨hcalls, hrest, hpre⟩ := hP
  obtain ⟨-, -, -, hnamed, -, -, -, hat⟩ := (Spec.applies_iff hf).mp happ
  obtain ⟨hg, hn⟩ := and_e (Cond.before_iff.mp (show (Jvm.Cond.and given_1 narrow_1).before args s = true from hpre))
  obtain ⟨g1, g2⟩ := and_e hg
  obtain ⟨g3, g4⟩ := and_e g2
  obtain ⟨g5, g6⟩ := and_e g4
  obtain ⟨g7, g8⟩ := and_e g6
  obtain ⟨g9, g10⟩ := and_e g8
  obtain ⟨g11, g12⟩ := and_e g10
  obtain ⟨w0, w1, w2, w3, w4, w5, rfl⟩ : ∃ w0 w1 w2 w3 w4 w5 : Value, args = #[w0, w1, w2, w3, w4, w5] := by
    have hs : args.size = 6 := by simpa [Cond.value, given_1] using g1
    obtain ⟨L⟩ := args
    match L, hs with
    | [w0, w1, w2, w3, w4, w5], _ => exact ⟨w0, w1, w2, w3, w4, w5, rfl⟩
  have hw := fun d (hd : d ∈ tables_1) => atoms_spec (ws := Jvm.Cond.code x code maxLocals ret :: tables_1) hat d (List.mem_cons_of_mem _ hd)
  have hfit : Fit s := fun {y c} hc i hi => by
    obtain ⟨ha, rfl⟩ := Array.getElem?_eq_some_iff.mp hc
    have q := List.all_eq_true.mp ((Array.all_eq_true_iff_forall_mem.mp hF) _ (Array.getElem_mem ha)) i (List.mem_range.mpr hi)
    simpa [Array.getElem?_eq_getElem hi] using q
  obtain ⟨i0, ei0⟩ := is_v g3
  obtain rfl : w0 = (.int i0) := Option.some.inj ei0
  obtain ⟨i1, ei1⟩ := is_v g5
  obtain rfl : w1 = (.int i1) := Option.some.inj ei1
  obtain ⟨i2, ei2⟩ := is_v g7
  obtain rfl : w2 = (.int i2) := Option.some.inj ei2
  obtain ⟨i3, ei3⟩ := is_v g9
  obtain rfl : w3 = (.int i3) := Option.some.inj ei3
  obtain ⟨i4, ei4⟩ := is_v g11
  obtain rfl : w4 = (.int i4) := Option.some.inj ei4
  obtain ⟨i5, ei5⟩ := is_v g12
  obtain rfl : w5 = (.int i5) := Option.some.inj ei5
  obtain ⟨n, o, h1, h2, h3, _, L, rfl, ⟨N, rfl⟩, hq⟩ := own_rm0 l s _ hw tables_1 i0 i1 i2 i3 i4 i5  s.heap s.heap.size (Nat.le_refl _)  p e ha hc hk s m _ below hf ((Spec.applies_iff_loose hf).mp happ).1 ⟨rfl, State.Warmed39.refl s, rfl⟩ trivial
  refine ⟨n, _, h1, h2, h3, hpost _ _ _ _ _ _ ⟨Cond.after_iff.mpr rfl, Cond.after_iff.mpr (eq_i res_at (Term.int_eval (1)) rfl), trivial⟩ ⟨hq.1, hq.2.1, (hq.2.2.sift fun y hy => Or.inr (N y hy)).mono (by decide) (by decide)⟩⟩
theorem main_1_1 : Claimed_1_1 := own_comes_1 fun _ _ _ _ _ _ h hF => ⟨h.1, hF⟩
theorem main_1_2 : Claimed_1_2 := own_comes_1 fun _ _ _ _ _ _ h hF => ⟨h.2.1, hF⟩
end Jvm.Pilot.@@N@@
namespace Jvm.Pilot.@@N@@
open Jvm Jvm.ClassFile Sem Op Lib Jvm.Free Jvm.Stand Jvm.Pilot.@@N@@.Jvm.D
/-! MADE BY PROGRAM (witnessworld.py) out of the Statement's table words and the real class files: 9 classes; the members and pool entries that the words name. The judged class is class 1, her method 3. -/
namespace start1
open Jvm.ClassFile
def u (s : String) : CpInfo := .utf8 (stringToUtf16 s)
/-- a pool by its gaps: so many unusable entries, then the entry; so many at the end -/
def gap : Nat → List CpInfo → List CpInfo
  | 0, r => r
  | n + 1, r => .unusable :: gap n r
def poolList (es : List (Nat × CpInfo)) (last : Nat) : List CpInfo := es.foldr (fun e r => gap e.1 (e.2 :: r)) (gap last [])
def pool (es : List (Nat × CpInfo)) (last : Nat) : Array CpInfo := ⟨poolList es last⟩
def fileOf (pool : Array CpInfo) (this : Nat) (attrs : Array Attribute := #[]) (ms : Array MethodInfo := #[]) (fl : Nat := 33) (sup : Nat := 0) (ifs : Array Nat := #[]) (fds : Array FieldInfo := #[]) : ClassFile where
  minorVersion := 0
  majorVersion := 65
  constantPool := pool
  accessFlags := fl
  thisClass := this
  superClass := sup
  interfaces := ifs
  fields := fds
  methods := ms
  attributes := attrs
def plain (name : String) (sup : Option ClassId) : Class where
  name := name
  kind := .ordinary
  loader := none
  accessFlags := 33
  super := sup
  interfaces := #[]
  cf := none
  fields := #[]
  methods := #[]
  instanceTypes := #[]
  staticTypes := #[]
  resolved := #[]
  callSites := []
  init := .initialized
  statics := none
  mirror := none

def pool0 : Array CpInfo := pool [(5, u "<init>"), (0, u "()V"), (1, .class_ 10), (1, u "java/lang/Object")] 113

def k0m0 : Method := { name := "<init>", desc := "()V", sig := { parameters := [], returnType := none }, accessFlags := 1, code := none }
/-- java/lang/Object -/
def k0 : Class := { plain "java/lang/Object" none with
  accessFlags := 33
  interfaces := #[]
  cf := some (fileOf pool0 8 #[] #[{ accessFlags := 1, nameIndex := 5, descriptorIndex := 6, attributes := #[] }] 33 0 #[] #[])
  fields := #[]
  methods := #[k0m0]
  instanceTypes := #[]
  staticTypes := #[]
  resolved := Array.replicate 124 none
  statics := none }

def pool1 : Array CpInfo := pool [(2, .class_ 4), (1, u "java/lang/Object"), (0, u "<init>"), (0, u "()V"), (0, .methodref 8 9), (0, .class_ 10), (0, .nameAndType 11 12), (0, u "com/example/tagwire/tagwire/wire/BytesIsDigitsPinLaw"), (0, u "digit"), (0, u "(B)Z"), (0, .integer 2147483647), (0, .methodref 8 15), (0, .nameAndType 16 17), (0, u "ok"), (0, u "(IIIB)Z"), (0, .methodref 19 20), (0, .class_ 21), (0, .nameAndType 22 23), (0, u "com/example/tagwire/tagwire/wire/Bytes"), (0, u "isDigits"), (0, u "([BII)Z"), (3, u "law"), (0, u "(IIIIII)Z")] 4

def k1m0 : Method := { name := "<init>", desc := "()V", sig := { parameters := [], returnType := none }, accessFlags := 2, code := none }
def k1c1 : Code := { maxStack := 2, maxLocals := 2, code := method_2_code, exceptionTable := #[], attributes := #[] }
def k1m1 : Method := { name := "digit", desc := "(B)Z", sig := { parameters := [.byte], returnType := some .boolean }, accessFlags := 10, code := some k1c1 }
def k1c2 : Code := { maxStack := 2, maxLocals := 4, code := method_3_code, exceptionTable := #[], attributes := #[] }
def k1m2 : Method := { name := "ok", desc := "(IIIB)Z", sig := { parameters := [.int, .int, .int, .byte], returnType := some .boolean }, accessFlags := 10, code := some k1c2 }
def k1c3 : Code := { maxStack := 5, maxLocals := 11, code := code, exceptionTable := #[], attributes := #[] }
def k1m3 : Method := { name := "law", desc := "(IIIIII)Z", sig := { parameters := [.int, .int, .int, .int, .int, .int], returnType := some .boolean }, accessFlags := 9, code := some k1c3 }
/-- com/example/tagwire/tagwire/wire/BytesIsDigitsPinLaw -/
def k1 : Class := { plain "com/example/tagwire/tagwire/wire/BytesIsDigitsPinLaw" (some 0) with
  accessFlags := 49
  interfaces := #[]
  cf := some (fileOf pool1 8 #[] #[{ accessFlags := 2, nameIndex := 5, descriptorIndex := 6, attributes := #[] }, { accessFlags := 10, nameIndex := 11, descriptorIndex := 12, attributes := #[] }, { accessFlags := 10, nameIndex := 16, descriptorIndex := 17, attributes := #[] }, { accessFlags := 9, nameIndex := 27, descriptorIndex := 28, attributes := #[] }] 49 2 #[] #[])
  fields := #[]
  methods := #[k1m0, k1m1, k1m2, k1m3]
  instanceTypes := #[]
  staticTypes := #[]
  resolved := Array.replicate 33 none
  statics := none }

def pool2 : Array CpInfo := pool [(2, .class_ 4), (1, u "java/lang/Object"), (0, u "<init>"), (0, u "()V"), (1, .class_ 10), (1, u "com/example/tagwire/tagwire/wire/Bytes"), (0, u "isDigits"), (0, u "([BII)Z")] 30

def k2m0 : Method := { name := "<init>", desc := "()V", sig := { parameters := [], returnType := none }, accessFlags := 2, code := none }
def k2c1 : Code := { maxStack := 2, maxLocals := 4, code := prog_49_method_4_code, exceptionTable := #[], attributes := #[] }
def k2m1 : Method := { name := "isDigits", desc := "([BII)Z", sig := { parameters := [(.array .byte), .int, .int], returnType := some .boolean }, accessFlags := 8, code := some k2c1 }
/-- com/example/tagwire/tagwire/wire/Bytes -/
def k2 : Class := { plain "com/example/tagwire/tagwire/wire/Bytes" (some 0) with
  accessFlags := 48
  interfaces := #[]
  cf := some (fileOf pool2 8 #[] #[{ accessFlags := 2, nameIndex := 5, descriptorIndex := 6, attributes := #[] }, { accessFlags := 8, nameIndex := 11, descriptorIndex := 12, attributes := #[] }] 48 2 #[] #[])
  fields := #[]
  methods := #[k2m0, k2m1]
  instanceTypes := #[]
  staticTypes := #[]
  resolved := Array.replicate 43 none
  statics := none }

def pool3 : Array CpInfo := pool [(1, u "java/lang/Cloneable"), (0, .class_ 1), (0, u "java/lang/Object"), (0, .class_ 3)] 3

/-- java/lang/Cloneable -/
def k3 : Class := { plain "java/lang/Cloneable" (some 0) with
  accessFlags := 1537
  interfaces := #[]
  cf := some (fileOf pool3 2 #[] #[] 1537 4 #[] #[])
  fields := #[]
  methods := #[]
  instanceTypes := #[]
  staticTypes := #[]
  resolved := Array.replicate 8 none
  statics := none }

def pool4 : Array CpInfo := pool [(1, u "java/io/Serializable"), (0, .class_ 1), (0, u "java/lang/Object"), (0, .class_ 3)] 3

/-- java/io/Serializable -/
def k4 : Class := { plain "java/io/Serializable" (some 0) with
  accessFlags := 1537
  interfaces := #[]
  cf := some (fileOf pool4 2 #[] #[] 1537 4 #[] #[])
  fields := #[]
  methods := #[]
  instanceTypes := #[]
  staticTypes := #[]
  resolved := Array.replicate 8 none
  statics := none }

/-- the primitive byte -/
def k5 : Class := { plain "byte" none with kind := .primitive 'B', accessFlags := 0x411 }
/-- [B -/
def k6 : Class := { plain "[B" (some 0) with kind := .array 5 .byte, interfaces := #[3, 4], accessFlags := 1041 }

/-- the primitive int -/
def k7 : Class := { plain "int" none with kind := .primitive 'I', accessFlags := 0x411 }
/-- [I -/
def k8 : Class := { plain "[I" (some 0) with kind := .array 7 .int, interfaces := #[3, 4], accessFlags := 1041 }

def heap : Heap := #[]
def classes : Array Class := #[k0, k1, k2, k3, k4, k5, k6, k7, k8]
def interned : List (Array UInt16 × Addr) := []
def slotsUsed : Nat := 0
def theMethod : MethodId := ⟨1, 3⟩
def args0 : Array Value := #[.int 10, .int 17, .int 24, .int 31, .int 38, .int 45]
def aboutOver (below : List Frame) : State where
  vm := { classes := classes, interned := interned.toArray }
  heap := heap
  slotsUsed := slotsUsed
  threads := #[{ frames := .invoking theMethod args0 :: below }]
def below0 : List Frame := [.native { method := ⟨0, 0⟩, args := #[] }]
def about1 : State := aboutOver below0
def p0 : Program := .bare "" "" ""
def e0 : Env := launch0.env 0 0 0
theorem w_frames : about1.frames = Frame.invoking theMethod args0 :: below0 := rfl
set_option maxRecDepth 65536 in
theorem w_args : argsFit about1.vm theMethod args0 = true := by decide +kernel
set_option maxRecDepth 65536 in
theorem w_heap : heapFits about1 = true := by decide +kernel
set_option maxRecDepth 65536 in
theorem w_runnable : about1.curStatus? = some .runnable := by decide +kernel
set_option maxRecDepth 65536 in
theorem w_alone : about1.alone = true := by decide +kernel
set_option maxRecDepth 65536 in
theorem w_named : about1.methodNamed? x = some theMethod := by decide +kernel
set_option maxRecDepth 65536 in
theorem w_hears : about1.hears theMethod below0 = true := by decide +kernel
set_option maxRecDepth 65536 in
theorem w_ripe : about1.ripe theMethod args0 below0 = true := by decide +kernel
theorem w_running : about1.status = .running := rfl
set_option maxRecDepth 65536 in
theorem w_room : about1.hasRoom e0.platform room_1 = true :=
  launch0.hasRoom_least _ room_1 (by decide +kernel) (by decide +kernel) (by decide +kernel) (by decide +kernel) (by decide +kernel) (by decide +kernel)
theorem allAtoms_all (ts : List Jvm.Cond) (a : Array Jvm.Value) (st : Jvm.State) : (allAtoms ts).before a st = ts.all (fun c => c.before a st) := by
  induction ts with
  | nil => rfl
  | cons c t ih =>
    show (Jvm.Cond.and c (allAtoms t)).before a st = _
    rw [Jvm.Cond.before_and, ih, List.all_cons]
def words1 : List Jvm.Cond := Jvm.Cond.code x code maxLocals ret :: tables_1
/-- a 'code' word, met by the world's own term for the bytes: nothing is compared byte by byte -/
theorem code_word {y : MethodName} {bytes : ByteArray} {mx : Nat} {rt : Option FieldType} {a : Array Value} {s : State} {m : MethodId} {meth : Method} {c : Code} (h1 : s.methodNamed? y = some m) (h2 : s.vm.method? m = some meth) (h3 : meth.code = some c) (h4 : c.code = bytes)
    (h5 : (c.maxLocals == mx && c.exceptionTable.isEmpty && decide (c.maxStack ≤ mostOperands) && decide (meth.sig.returnType = rt) && !meth.locks && decide (parseMethodDescriptor y.desc = some meth.sig)) = true) : (Jvm.Cond.code y bytes mx rt).before a s = true := by
  simp only [Bool.and_eq_true, beq_iff_eq, Bool.not_eq_true', decide_eq_true_eq] at h5
  obtain ⟨⟨⟨⟨⟨g1, g2⟩, g3⟩, g4⟩, g5⟩, g6⟩ := h5
  simp [Cond.before, Cond.holds, Cond.value, h1, h2, h3, h4, g1, g2, g3, g4, g5, g6]
def isCode : Jvm.Cond → Bool
  | .code _ _ _ _ => true
  | _ => false
theorem all_split {L : List Jvm.Cond} {P : Jvm.Cond → Bool} (h1 : L.all (fun c => isCode c || P c) = true) (h2 : ∀ c ∈ L.filter isCode, P c = true) : L.all P = true := by
  refine List.all_eq_true.mpr fun c hc => ?_
  have h := List.all_eq_true.mp h1 c hc
  rcases Bool.eq_false_or_eq_true (isCode c) with hi | hi
  · exact h2 c (List.mem_filter.mpr ⟨hc, hi⟩)
  · simpa [hi] using h
set_option maxRecDepth 65536 in
theorem w_c0 : (Jvm.Cond.code x code maxLocals ret).before args0 about1 = true := code_word (m := ⟨1, 3⟩) (meth := k1m3) (c := k1c3) (by decide +kernel) rfl rfl rfl (by decide +kernel)
set_option maxRecDepth 65536 in
theorem w_c1 : (Jvm.Cond.code ({ cls := "com/example/tagwire/tagwire/wire/BytesIsDigitsPinLaw", name := "ok", desc := "(IIIB)Z" } : Jvm.MethodName) method_3_code (4 : Nat) (Option.some Jvm.ClassFile.FieldType.boolean)).before args0 about1 = true := code_word (m := ⟨1, 2⟩) (meth := k1m2) (c := k1c2) (by decide +kernel) rfl rfl rfl (by decide +kernel)
set_option maxRecDepth 65536 in
theorem w_c2 : (Jvm.Cond.code ({ cls := "com/example/tagwire/tagwire/wire/BytesIsDigitsPinLaw", name := "digit", desc := "(B)Z" } : Jvm.MethodName) method_2_code (2 : Nat) (Option.some Jvm.ClassFile.FieldType.boolean)).before args0 about1 = true := code_word (m := ⟨1, 1⟩) (meth := k1m1) (c := k1c1) (by decide +kernel) rfl rfl rfl (by decide +kernel)
set_option maxRecDepth 65536 in
theorem w_c3 : (Jvm.Cond.code ({ cls := "com/example/tagwire/tagwire/wire/Bytes", name := "isDigits", desc := "([BII)Z" } : Jvm.MethodName) prog_49_method_4_code (4 : Nat) (Option.some Jvm.ClassFile.FieldType.boolean)).before args0 about1 = true := code_word (m := ⟨2, 1⟩) (meth := k2m1) (c := k2c1) (by decide +kernel) rfl rfl rfl (by decide +kernel)
def codes1 : List Jvm.Cond := [Jvm.Cond.code x code maxLocals ret, Jvm.Cond.code ({ cls := "com/example/tagwire/tagwire/wire/BytesIsDigitsPinLaw", name := "ok", desc := "(IIIB)Z" } : Jvm.MethodName) method_3_code (4 : Nat) (Option.some Jvm.ClassFile.FieldType.boolean), Jvm.Cond.code ({ cls := "com/example/tagwire/tagwire/wire/BytesIsDigitsPinLaw", name := "digit", desc := "(B)Z" } : Jvm.MethodName) method_2_code (2 : Nat) (Option.some Jvm.ClassFile.FieldType.boolean), Jvm.Cond.code ({ cls := "com/example/tagwire/tagwire/wire/Bytes", name := "isDigits", desc := "([BII)Z" } : Jvm.MethodName) prog_49_method_4_code (4 : Nat) (Option.some Jvm.ClassFile.FieldType.boolean)]
set_option maxRecDepth 65536 in
theorem codes_eq : words1.filter isCode = codes1 := rfl
theorem w_codes : ∀ c ∈ words1.filter isCode, c.before args0 about1 = true := by
  rw [codes_eq]
  intro c hc
  simp only [codes1, List.mem_cons, List.not_mem_nil, or_false] at hc
  rcases hc with rfl | rfl | rfl | rfl
  · exact w_c0
  · exact w_c1
  · exact w_c2
  · exact w_c3
set_option maxRecDepth 65536 in
theorem w_t1 : words1.all (fun c => isCode c || c.before args0 about1) = true := by decide +kernel
theorem w_tables : (allAtoms (Jvm.Cond.code x code maxLocals ret :: tables_1)).before args0 about1 = true := by
  rw [allAtoms_all]
  show words1.all (fun c => c.before args0 about1) = true
  refine all_split ?_ w_codes
  rw [w_t1]
set_option maxRecDepth 65536 in
theorem w_case : (Jvm.Cond.and given_1 narrow_1).before args0 about1 = true := by decide +kernel
theorem w_applies : (headSpec (Jvm.Cond.code x code maxLocals ret :: tables_1) room_1).applies x e0.platform about1 = true :=
  (Spec.applies_iff w_frames).mpr ⟨w_running, w_runnable, w_alone, w_named, w_hears, w_ripe, w_room, w_tables⟩
theorem atStart : AtStart classFile x code maxLocals ret World_1 tables_1 room_1 Calls_1 rest_1 Pre_1 launch0 p0 e0 about1 theMethod args0 below0 :=
  ⟨lists_1, trivial, launch0.admits_env _ _ _, launch0.least_env, fairChoices_fair.cas, fairChoices_fair.clock, w_frames, w_args, w_heap, w_applies, trivial, trivial, w_case⟩
end start1
theorem witness_1 : WitnessClaimed_1 := ⟨start1.p0, start1.e0, start1.about1, start1.theMethod, start1.args0, start1.below0, start1.atStart⟩
end Jvm.Pilot.@@N@@
