import JvmDerived
import JvmDerived.Pilot.@@N@@Statement
import JvmDerived.Pilot.@@N@@Code
set_option linter.unusedVariables false
set_option linter.unusedSimpArgs false
namespace Jvm.Pilot.@@N@@
open Jvm Jvm.ClassFile Sem Op Lib Jvm.Free Jvm.Stand Jvm.LawKit Jvm.RoadKit Bundle Jvm.Pilot.@@N@@.Jvm.D
section OwnLayer
/-- the run from A ends, and P holds of how it ends -/
def own_Ends (tb : Tables) (e : Env) (below : List Frame) (P : Outcome → State → Prop) (A : State) : Prop :=
  ∃ s₂ o, Steps tb e below A s₂ ∧ s₂.status = .running ∧ Ended s₂ below o ∧ P o s₂
theorem own_st {tb : Tables} {e : Env} {below : List Frame} {P : Outcome → State → Prop} {A B : State} (h : ∀ t, Steps tb e below B t → Steps tb e below A t) (k : own_Ends tb e below P B) : own_Ends tb e below P A := by
  obtain ⟨s2, o, h1, h2⟩ := k
  exact ⟨s2, o, h _ h1, h2⟩
/-- where the walk stands: the state T, its heap h, k cells and n slots made, nothing below n0 written -/
def own_S (p : Program) (l : Launch) (e : Env) (R : Room) (s : State) (m : MethodId) (args : Array Value) (below : List Frame) (meth : Method) (c : Code) (n0 : Nat) (T : State) (h : Heap) (k n : Nat) : Prop :=
  ∃ locs, Stand p l e R s m args below meth c T locs k n ∧ T.heap = h ∧ Fr n0 locs
def own_P (s : State) (n0 : Nat) (Qf : Option Value → Heap → Prop) (C S : Nat) (o : Outcome) (U' : State) : Prop := ∃ v L, o = .returned v ∧ (Fr n0 L ∧ Qf v U'.heap) ∧ FrameEnd s o U' L C S
/-- a body's contract: called with 'as' at the heap h0 it returns, and Qf holds of what it returns and of the heap -/
def own_Con (l : Launch) (Z : State) (y : MethodName) (bytes : ByteArray) (maxL : Nat) (ret : Option FieldType) (ws : List Jvm.Cond) (rm : Room) (as' : Array Value) (h0 : Heap) (n0 : Nat) (Qf : Option Value → Heap → Prop) : Prop :=
  MetFree l y (head1 (Jvm.Cond.code y bytes maxL ret :: ws) rm) (fun a U => a = as' ∧ Z.Warmed39 U.vm ∧ U.heap = h0) (fun _ _ _ _ _ => True) (fun _ U o U' => ∃ v L, o = .returned v ∧ (Fr n0 L ∧ Qf v U'.heap) ∧ FrameEnd U o U' L rm.cells rm.slots)
variable {p : Program} {l : Launch} {e : Env} {R : Room} {s : State} {m : MethodId} {args : Array Value} {below : List Frame} {meth : Method} {c : Code} {n0 : Nat} {T : State} {h : Heap} {k n : Nat} {Z : State} {a0 : Array Value} {P : Outcome → State → Prop}
theorem own_here (Y : own_S p l e R s m args below meth c n0 T h k n) : At T m c below := by
  obtain ⟨_, X, -⟩ := Y
  exact X.here
theorem own_body {y : MethodName} {bytes : ByteArray} {maxL : Nat} {ret : Option FieldType} {ws : List Jvm.Cond} {rm : Room} {as' : Array Value} {h0 : Heap} {Qf : Option Value → Heap → Prop} (hpn : plainFor y = true)
    (hbody : ∀ (p : Program) (e : Env) (s : State) (m : MethodId) (below : List Frame) (meth : Method) (c : Code) (T : State), p.tables.exec = Jvm.exec → Z.Warmed39 s.vm → c.code = bytes → c.maxLocals = maxL → s.vm.findClass y.cls = some m.cls → meth.name = y.name → meth.sig.returnType = ret → meth.locks = false →
      own_S p l e rm s m as' below meth c n0 T h0 0 0 → own_Ends p.tables e below (own_P s n0 Qf rm.cells rm.slots) (T.setTop (entryFrame m as' maxL))) : own_Con l Z y bytes maxL ret ws rm as' h0 n0 Qf := by
  refine MetFree.of_bodySF hpn hisR ?_
  intro p e s m args below meth c s₁ Bd hml0 hP hK
  obtain ⟨rfl, hZ, hh⟩ := hP
  have hown : s.vm.findClass y.cls = some m.cls := findClass_of_methodNamed Bd.named
  have hnm := (name_of_methodNamed Bd.named Bd.method).1
  exact hbody p e s m below meth c s₁ Bd.exec hZ Bd.bytes hml0 hown hnm Bd.returns Bd.notSynchronized ⟨[], Stand.of_body Bd, by rw [← hh, Bd.state]; rfl, Fr.nil n0⟩
theorem own_leave (Y : own_S p l e R s m args below meth c n0 T h k n) (hlk : meth.locks = false) {v : Option Value} (hv : meth.sig.returnType = none → v = none) {Qf : Option Value → Heap → Prop} {C S : Nat} (hk : k ≤ C) (hn : n ≤ S) (hQ : Qf v h) {A : State}
    (st : ∀ (locs : List Loc) (fs : List Frame), Stand p l e R s m args below meth c T locs k n → (∀ (f : JFrame) (acts : List Action), f.method = m → f.locked = none → f.entered = [] → (doReturn e (T.setTop f) acts v).1 = T.setFrames fs) → Steps p.tables e below A (T.setFrames fs)) : own_Ends p.tables e below (own_P s n0 Qf C S) A := by
  obtain ⟨locs, X, e1, N⟩ := Y
  obtain ⟨fs, hr, hrun, hended, hW, hsame⟩ := X.leave hv hlk
  refine ⟨_, _, st locs fs X hr, hrun, hended, v, locs, rfl, ⟨N, ?_⟩, ⟨_, rfl⟩, hW, hsame.mono hk hn⟩
  show Qf v T.heap
  rw [e1]; exact hQ
theorem own_ret (Y : own_S p l e R s m args below meth c n0 T h k n) (hx : p.tables.exec = Jvm.exec) (hlk : meth.locks = false) {pc : Nat} {Ls : Array Slot} {w : Value} {t : FieldType} {i : Instr} {rest : List Value} (hret : meth.sig.returnType = some t) (hd : decode c.code pc = .ok (i, 1)) (hn : narrow t w = w)
    (hi : (i = .ireturn ∧ (t = .int ∨ t = .boolean ∨ t = .byte ∨ t = .char ∨ t = .short) ∧ ∃ z, w = .int z) ∨ (i = .lreturn ∧ t = .long ∧ ∃ z, w = .long z) ∨ (i = .dreturn ∧ t = .double ∧ ∃ z, w = .double z) ∨ (i = .freturn ∧ t = .float ∧ ∃ z, w = .float z) ∨ (i = .areturn ∧ t.isReference = true ∧ w.isRef = true))
    {Qf : Option Value → Heap → Prop} {C S : Nat} (hk : k ≤ C) (hs : n ≤ S) (hQ : Qf (some w) h) : own_Ends p.tables e below (own_P s n0 Qf C S) (T.setTop (mkF m pc Ls (w :: rest))) :=
  own_leave Y hlk (fun q => by rw [hret] at q; cases q) hk hs hQ fun _ _ X hr => retOut X hx hret hn hi hd hr
theorem own_retI (Y : own_S p l e R s m args below meth c n0 T h k n) (hx : p.tables.exec = Jvm.exec) (hlk : meth.locks = false) {pc : Nat} {Ls : Array Slot} {z : Int32} {rest : List Value} (hret : meth.sig.returnType = some .int) (hd : decode c.code pc = .ok (.ireturn, 1))
    {Qf : Option Value → Heap → Prop} {C S : Nat} (hk : k ≤ C) (hs : n ≤ S) (hQ : Qf (some (.int z)) h) : own_Ends p.tables e below (own_P s n0 Qf C S) (T.setTop (mkF m pc Ls (.int z :: rest))) :=
  own_ret Y hx hlk hret hd rfl (Or.inl ⟨rfl, Or.inl rfl, _, rfl⟩) hk hs hQ
theorem own_retN (Y : own_S p l e R s m args below meth c n0 T h k n) (hx : p.tables.exec = Jvm.exec) (hlk : meth.locks = false) {pc : Nat} {Ls : Array Slot} {z : Int32} {t : FieldType} {rest : List Value} (hret : meth.sig.returnType = some t) (ht : t = .boolean ∨ t = .byte ∨ t = .char ∨ t = .short) (hd : decode c.code pc = .ok (.ireturn, 1))
    {Qf : Option Value → Heap → Prop} {C S : Nat} (hk : k ≤ C) (hs : n ≤ S) (hQ : Qf (some (.int (nar t z))) h) : own_Ends p.tables e below (own_P s n0 Qf C S) (T.setTop (mkF m pc Ls (.int z :: rest))) :=
  own_leave Y hlk (fun q => by rw [hret] at q; cases q) hk hs hQ fun _ _ X hr => retN X hx hret ht hd hr
theorem own_retJ (Y : own_S p l e R s m args below meth c n0 T h k n) (hx : p.tables.exec = Jvm.exec) (hlk : meth.locks = false) {pc : Nat} {Ls : Array Slot} {z : Int64} {rest : List Value} (hret : meth.sig.returnType = some .long) (hd : decode c.code pc = .ok (.lreturn, 1))
    {Qf : Option Value → Heap → Prop} {C S : Nat} (hk : k ≤ C) (hs : n ≤ S) (hQ : Qf (some (.long z)) h) : own_Ends p.tables e below (own_P s n0 Qf C S) (T.setTop (mkF m pc Ls (.long z :: rest))) :=
  own_ret Y hx hlk hret hd rfl (Or.inr (Or.inl ⟨rfl, rfl, _, rfl⟩)) hk hs hQ
theorem own_retA (Y : own_S p l e R s m args below meth c n0 T h k n) (hx : p.tables.exec = Jvm.exec) (hlk : meth.locks = false) {pc : Nat} {Ls : Array Slot} {w : Value} {t : FieldType} {rest : List Value} (hret : meth.sig.returnType = some t) (ht : t.isReference = true) (hw : w.isRef = true) (hn : narrow t w = w) (hd : decode c.code pc = .ok (.areturn, 1))
    {Qf : Option Value → Heap → Prop} {C S : Nat} (hk : k ≤ C) (hs : n ≤ S) (hQ : Qf (some w) h) : own_Ends p.tables e below (own_P s n0 Qf C S) (T.setTop (mkF m pc Ls (w :: rest))) :=
  own_ret Y hx hlk hret hd hn (Or.inr (Or.inr (Or.inr (Or.inr ⟨rfl, ht, hw⟩)))) hk hs hQ
theorem own_retV (Y : own_S p l e R s m args below meth c n0 T h k n) (hx : p.tables.exec = Jvm.exec) (hlk : meth.locks = false) {pc : Nat} {Ls : Array Slot} (hret : meth.sig.returnType = none) (hd : decode c.code pc = .ok (.return_, 1))
    {Qf : Option Value → Heap → Prop} {C S : Nat} (hk : k ≤ C) (hs : n ≤ S) (hQ : Qf none h) : own_Ends p.tables e below (own_P s n0 Qf C S) (T.setTop (mkF m pc Ls [])) :=
  own_leave Y hlk (fun _ => rfl) hk hs hQ fun _ _ X hr => X.returnOut hx hret hd hr
/-! fields -/
theorem own_getF (Y : own_S p l e R s m args below meth c n0 T h k n) (hx : p.tables.exec = Jvm.exec) (hZ : Z.Warmed39 s.vm) {own R0 O f d host : String} {index : Nat} (hown : s.vm.findClass own = some m.cls) (w : (Jvm.Cond.fieldLink own index R0 f d).before a0 Z = true ∨ (Jvm.Cond.fieldLinkNest own index R0 f d host).before a0 Z = true) (via : Via Z R0 O f d) {a : Addr} {v : Value} (F : Fld Z h a O f d v)
    {g : JFrame} (hg : g.method = m) {rest : List Value} (hs : g.stack = .ref a :: rest) (hd : decode c.code g.pc = .ok (.getfield index, 3)) (K : ∀ T', own_S p l e R s m args below meth c n0 T' h k n → own_Ends p.tables e below P (T'.setTop { g with pc := g.pc + 3, stack := v :: rest })) : own_Ends p.tables e below P (T.setTop g) := by
  obtain ⟨locs, X, e1, N⟩ := Y
  obtain ⟨T', X', e', st⟩ := getF X hx hZ hown w via e1 F hg hs hd
  exact own_st st (K T' ⟨locs, X', e', N⟩)
theorem own_putF (Y : own_S p l e R s m args below meth c n0 T h k n) (hx : p.tables.exec = Jvm.exec) (hZ : Z.Warmed39 s.vm) {own R0 O f d host C : String} {index kk : Nat} {ty : FieldType} (hown : s.vm.findClass own = some m.cls) (w : (Jvm.Cond.fieldLink own index R0 f d).before a0 Z = true ∨ (Jvm.Cond.fieldLinkNest own index R0 f d host).before a0 Z = true) (via : Via Z R0 O f d) {a : Addr} {v old : Value} (F : Fld Z h a O f d old) (E : Exa Z h a C)
    (L : (Jvm.Cond.lays C O f d).before a0 Z = true ∨ ((Jvm.Cond.laysFinal C O f d).before a0 Z = true ∧ own = O ∧ meth.name = "<init>")) (wi : (Jvm.Cond.instantiable C kk).before a0 Z = true) (ha : n0 ≤ a) (hty : parseFieldDescriptor d = some ty) (hn : narrow ty v = v) (hf : fits ty v = true) {g : JFrame} (hg : g.method = m) {rest : List Value} (hs : g.stack = v :: .ref a :: rest) (hd : decode c.code g.pc = .ok (.putfield index, 3))
    (K : ∀ T' h', own_S p l e R s m args below meth c n0 T' h' k n → Wr h h' a (Jvm.RoadKit.slotOf Z O f d) v → Fld Z h' a O f d v → own_Ends p.tables e below P (T'.setTop { g with pc := g.pc + 3, stack := rest })) : own_Ends p.tables e below P (T.setTop g) := by
  obtain ⟨locs, X, e1, N⟩ := Y
  obtain ⟨T', h', X', e', W, st⟩ := putF X hx hZ hown w via e1 F E L wi hty hn hf hg hs hd
  exact own_st st (K T' h' ⟨_, X', e', Fr.snoc X' N ha⟩ W (F.same W))
theorem own_putFN (Y : own_S p l e R s m args below meth c n0 T h k n) (hx : p.tables.exec = Jvm.exec) (hZ : Z.Warmed39 s.vm) {own R0 O f d C : String} {index kk : Nat} {ty : FieldType} (hown : s.vm.findClass own = some m.cls) (w : (Jvm.Cond.fieldLink own index R0 f d).before a0 Z = true) (via : Via Z R0 O f d) {a : Addr} {v v' old : Value} (F : Fld Z h a O f d old) (E : Exa Z h a C)
    (L : (Jvm.Cond.lays C O f d).before a0 Z = true ∨ ((Jvm.Cond.laysFinal C O f d).before a0 Z = true ∧ own = O ∧ meth.name = "<init>")) (wi : (Jvm.Cond.instantiable C kk).before a0 Z = true) (ha : n0 ≤ a) (hty : parseFieldDescriptor d = some ty) (hn : narrow ty v = v') (hf : fits ty v' = true) {g : JFrame} (hg : g.method = m) {rest : List Value} (hs : g.stack = v :: .ref a :: rest) (hd : decode c.code g.pc = .ok (.putfield index, 3))
    (K : ∀ T' h', own_S p l e R s m args below meth c n0 T' h' k n → Wr h h' a (Jvm.RoadKit.slotOf Z O f d) v' → Fld Z h' a O f d v' → own_Ends p.tables e below P (T'.setTop { g with pc := g.pc + 3, stack := rest })) : own_Ends p.tables e below P (T.setTop g) := by
  obtain ⟨locs, X, e1, N⟩ := Y
  obtain ⟨T', h', X', e', W, st⟩ := putFN X hx hZ hown w via e1 F E L wi hty hn hf hg hs hd
  exact own_st st (K T' h' ⟨_, X', e', Fr.snoc X' N ha⟩ W (F.same W))
theorem own_getS (Y : own_S p l e R s m args below meth c n0 T h k n) (hx : p.tables.exec = Jvm.exec) (hZ : Z.Warmed39 s.vm) {own R0 O f d host : String} {index : Nat} (hown : s.vm.findClass own = some m.cls) (w : (Jvm.Cond.fieldLink own index R0 f d).before a0 Z = true ∨ (Jvm.Cond.fieldLinkNest own index R0 f d host).before a0 Z = true) (via : Via Z R0 O f d) {v : Value} (F : Sta Z h O f d v)
    {g : JFrame} (hg : g.method = m) (hd : decode c.code g.pc = .ok (.getstatic index, 3)) (K : ∀ T', own_S p l e R s m args below meth c n0 T' h k n → own_Ends p.tables e below P (T'.setTop { g with pc := g.pc + 3, stack := v :: g.stack })) : own_Ends p.tables e below P (T.setTop g) := by
  obtain ⟨locs, X, e1, N⟩ := Y
  obtain ⟨T', X', e', st⟩ := getS2 X hx hZ hown w via e1 F hg hd
  exact own_st st (K T' ⟨locs, X', e', N⟩)
/-! new objects -/
theorem own_new (Y : own_S p l e R s m args below meth c n0 T h k n) (hx : p.tables.exec = Jvm.exec) (hZ : Z.Warmed39 s.vm) {own C : String} {index nn : Nat} (hown : s.vm.findClass own = some m.cls) (w : (Jvm.Cond.classLink own index C).before a0 Z = true) (wi : (Jvm.Cond.instantiable C nn).before a0 Z = true) (wz : (Jvm.Cond.initialized C).before a0 Z = true)
    {g : JFrame} (hg : g.method = m) (hd : decode c.code g.pc = .ok (.new index, 3)) (hc : k + 1 ≤ R.cells) (hl : n + nn ≤ R.slots)
    (K : ∀ T' h' b, b = h.size → own_S p l e R s m args below meth c n0 T' h' (k + 1) (n + nn) → Ext h h' → Exa Z h' b C → (∀ (O nm d : String) (ty : FieldType), Laid Z a0 C O nm d → parseFieldDescriptor d = some ty → Fld Z h' b O nm d (defaultValue ty)) →
      own_Ends p.tables e below P (T'.setTop { g with pc := g.pc + 3, stack := .ref b :: g.stack })) : own_Ends p.tables e below P (T.setTop g) := by
  obtain ⟨locs, X, e1, N⟩ := Y
  obtain ⟨T', h', X', e', E, A, D, -, st⟩ := newO X hx hZ hown w wi wz e1 hg hd hc hl
  exact own_st st (K T' h' _ rfl ⟨locs, X', e', N⟩ E A (fun _ _ _ _ q r => D q r))
theorem own_initO (Y : own_S p l e R s m args below meth c n0 T h k n) (hx : p.tables.exec = Jvm.exec) (hZ : Z.Warmed39 s.vm) {own : String} {idx : Nat} (hown : s.vm.findClass own = some m.cls) (w1 : (Jvm.Cond.methodLink own idx Lib.objectInit).before a0 Z = true) (w2 : (Jvm.Cond.instanceMethod Lib.objectInit).before a0 Z = true) (w3 : (Jvm.Cond.code Lib.objectInit ⟨#[0xb1]⟩ 1 none).before a0 Z = true)
    {g : JFrame} (hg : g.method = m) (hsize : g.locals.size = c.maxLocals) {a : Addr} {rest : List Value} (hs : g.stack = .ref a :: rest) (hd : decode c.code g.pc = .ok (.invokespecial idx, 3)) (hf : 1 ≤ R.frames) {W : Nat} (hW : 2 * g.monitorRoom + (rest.map fun v => v.category).sum ≤ W) (hl : W + 12 ≤ R.locals)
    (K : ∀ T', own_S p l e R s m args below meth c n0 T' h k n → own_Ends p.tables e below P (T'.setTop { g with pc := g.pc + 3, stack := rest })) : own_Ends p.tables e below P (T.setTop g) := by
  obtain ⟨locs, X, e1, N⟩ := Y
  obtain ⟨T', X', e', st⟩ := initO X hx hZ hown w1 w2 w3 e1 hg hsize hs hd hf hW hl
  exact own_st st (K T' ⟨locs, X', e', N⟩)
/-! arrays: the cell's slots are the list vs -/
def own_A (Z : State) (h : Heap) (a : Addr) (ty : FieldType) (vs : List Value) : Prop := ∃ c : Cell, Arr Z h a c ty ∧ c.slots.toList = vs ∧ vs.length < 2 ^ 31
theorem own_A.lt {a : Addr} {ty : FieldType} {vs : List Value} (A : own_A Z h a ty vs) : a < h.size := by obtain ⟨c, A, -⟩ := A; exact A.lt
theorem own_A.ext {h' : Heap} {a : Addr} {ty : FieldType} {vs : List Value} (A : own_A Z h a ty vs) (E : Ext h h') : own_A Z h' a ty vs := by obtain ⟨c, A, r⟩ := A; exact ⟨c, A.ext E, r⟩
theorem own_A.other {h' : Heap} {a b : Addr} {sl : Nat} {v : Value} {ty : FieldType} {vs : List Value} (A : own_A Z h a ty vs) (W : Wr h h' b sl v) (q : a ≠ b) : own_A Z h' a ty vs := by obtain ⟨c, A, r⟩ := A; exact ⟨c, A.other W q, r⟩
theorem own_A.keep {h' : Heap} {a : Addr} {ws : List Addr} {ty : FieldType} {vs : List Value} (A : own_A Z h a ty vs) (K : Keep h h' ws) (q : a ∉ ws) : own_A Z h' a ty vs := by obtain ⟨c, A, r⟩ := A; exact ⟨c, ⟨K.2.1 a c A.1 q, A.2⟩, r⟩
theorem own_sz {c : Cell} {vs : List Value} (q : c.slots.toList = vs) : c.slots.size = vs.length := by rw [← q]; simp
theorem own_in {c : Cell} {vs : List Value} {j : Int32} {i : Nat} (q : c.slots.toList = vs) (hj : ¬ j < 0) (hi : j.toNatClampNeg = i) (hl : i < vs.length) : ¬ (j < 0 ∨ c.slots.size ≤ j.toNatClampNeg) := by
  rw [own_sz q, hi]; intro z; rcases z with z | z
  · exact hj z
  · omega
theorem own_get {c : Cell} {vs : List Value} {j : Int32} {i : Nat} {v : Value} (q : c.slots.toList = vs) (hi : j.toNatClampNeg = i) (hv : vs[i]? = some v) : c.slots[j.toNatClampNeg]? = some v := by
  rw [hi, ← Array.getElem?_toList, q, hv]
theorem own_A.set {h' : Heap} {a : Addr} {ty : FieldType} {vs : List Value} {cl : Cell} {i : Nat} {v : Value} (A : Arr Z h a cl ty) (q : cl.slots.toList = vs) (hl : vs.length < 2 ^ 31) (W : Wr h h' a i v) : own_A Z h' a ty (vs.set i v) :=
  ⟨_, A.same W, by simp [Cell.setSlot, q], by simpa using hl⟩
theorem own_newP (Y : own_S p l e R s m args below meth c n0 T h k n) (hx : p.tables.exec = Jvm.exec) (hZ : Z.Warmed39 s.vm) {aty : ArrayType} (w : (Jvm.Cond.arrayClass (newarray.typeOf aty)).before a0 Z = true) {g : JFrame} (hg : g.method = m) (hd : decode c.code g.pc = .ok (.newarray aty, 2)) {z : Int32} {rest : List Value} (hs : g.stack = .int z :: rest)
    (hz : ¬ z < 0) {nz cap : Nat} (hn : z.toNatClampNeg = nz) (hcap : nz ≤ cap) (hb : cap * 8 ≤ 536870912) (hc : k + 1 ≤ R.cells) (hl : n + cap ≤ R.slots) {ty : FieldType} (hty : newarray.typeOf aty = ty)
    (K : ∀ T' h' b, b = h.size → own_S p l e R s m args below meth c n0 T' h' (k + 1) (n + cap) → Ext h h' → own_A Z h' b ty (List.replicate nz (defaultValue ty)) → own_Ends p.tables e below P (T'.setTop { g with pc := g.pc + 2, stack := .ref b :: rest })) : own_Ends p.tables e below P (T.setTop g) := by
  obtain ⟨locs, X, e1, N⟩ := Y
  subst hty
  obtain ⟨T', h', cA, X', e', E, A, st⟩ := newP X hx hZ w e1 hg hd hs hz (cap := cap) (by rw [hn]; exact hcap) hb hc hl
  refine own_st st (K T' h' _ rfl ⟨locs, X', e', N⟩ E ⟨_, A, ?_, ?_⟩)
  · simp [newA, hn]
  · simp; omega
theorem own_newR (Y : own_S p l e R s m args below meth c n0 T h k n) (hx : p.tables.exec = Jvm.exec) (hZ : Z.Warmed39 s.vm) {own C : String} {index : Nat} (hown : s.vm.findClass own = some m.cls) (w1 : (Jvm.Cond.classLink own index C).before a0 Z = true) (w2 : (Jvm.Cond.arrayOver (.object C)).before a0 Z = true) {g : JFrame} (hg : g.method = m) (hd : decode c.code g.pc = .ok (.anewarray index, 3)) {z : Int32} {rest : List Value} (hs : g.stack = .int z :: rest)
    (hz : ¬ z < 0) {nz cap : Nat} (hn : z.toNatClampNeg = nz) (hcap : nz ≤ cap) (hb : cap * 8 ≤ 536870912) (hc : k + 1 ≤ R.cells) (hl : n + cap ≤ R.slots)
    (K : ∀ T' h' b, b = h.size → own_S p l e R s m args below meth c n0 T' h' (k + 1) (n + cap) → Ext h h' → own_A Z h' b (.object C) (List.replicate nz .null) → own_Ends p.tables e below P (T'.setTop { g with pc := g.pc + 3, stack := .ref b :: rest })) : own_Ends p.tables e below P (T.setTop g) := by
  obtain ⟨locs, X, e1, N⟩ := Y
  obtain ⟨T', h', cA, X', e', E, A, O, st⟩ := newR X hx hZ hown w1 w2 e1 hg hd hs hz (cap := cap) (by rw [hn]; exact hcap) hb hc hl
  refine own_st st (K T' h' _ rfl ⟨locs, X', e', N⟩ E ⟨_, A, ?_, ?_⟩)
  · simp [newA, hn, defaultValue]
  · simp; omega
theorem own_mono (Y : own_S p l e R s m args below meth c n0 T h k n) {k' n' : Nat} (hk : k ≤ k') (hn : n ≤ n') : own_S p l e R s m args below meth c n0 T h k' n' := by
  obtain ⟨locs, X, r⟩ := Y
  exact ⟨locs, { X with same := X.same.mono hk hn }, r⟩
theorem own_stI (Y : own_S p l e R s m args below meth c n0 T h k n) (hx : p.tables.exec = Jvm.exec) (hZ : Z.Warmed39 s.vm) {a : Addr} {vs : List Value} (A : own_A Z h a .int vs) (ha : n0 ≤ a) {j x : Int32} {i : Nat} (hj : ¬ j < 0) (hi : j.toNatClampNeg = i) (hl : i < vs.length) {g : JFrame} (hg : g.method = m) {rest : List Value} (hs : g.stack = .int x :: .int j :: .ref a :: rest) (hd : decode c.code g.pc = .ok (.iastore, 1))
    (K : ∀ T' h', own_S p l e R s m args below meth c n0 T' h' k n → Wr h h' a i (.int x) → own_A Z h' a .int (vs.set i (.int x)) → own_Ends p.tables e below P (T'.setTop { g with pc := g.pc + 1, stack := rest })) : own_Ends p.tables e below P (T.setTop g) := by
  obtain ⟨locs, X, e1, N⟩ := Y
  obtain ⟨cl, A, q, r⟩ := A
  obtain ⟨T', h', X', e', W, st⟩ := stI X hx hZ e1 A (own_in q hj hi hl) hg hs hd
  have W' := W; rw [hi] at W'
  exact own_st st (K T' h' ⟨_, X', e', Fr.snoc X' N ha⟩ W' (own_A.set A q r W'))
theorem own_stJ (Y : own_S p l e R s m args below meth c n0 T h k n) (hx : p.tables.exec = Jvm.exec) (hZ : Z.Warmed39 s.vm) {a : Addr} {vs : List Value} (A : own_A Z h a .long vs) (ha : n0 ≤ a) {j : Int32} {x : Int64} {i : Nat} (hj : ¬ j < 0) (hi : j.toNatClampNeg = i) (hl : i < vs.length) {g : JFrame} (hg : g.method = m) {rest : List Value} (hs : g.stack = .long x :: .int j :: .ref a :: rest) (hd : decode c.code g.pc = .ok (.lastore, 1))
    (K : ∀ T' h', own_S p l e R s m args below meth c n0 T' h' k n → Wr h h' a i (.long x) → own_A Z h' a .long (vs.set i (.long x)) → own_Ends p.tables e below P (T'.setTop { g with pc := g.pc + 1, stack := rest })) : own_Ends p.tables e below P (T.setTop g) := by
  obtain ⟨locs, X, e1, N⟩ := Y
  obtain ⟨cl, A, q, r⟩ := A
  obtain ⟨T', h', X', e', W, st⟩ := stJ X hx hZ e1 A (own_in q hj hi hl) hg hs hd
  have W' := W; rw [hi] at W'
  exact own_st st (K T' h' ⟨_, X', e', Fr.snoc X' N ha⟩ W' (own_A.set A q r W'))
theorem own_stB (Y : own_S p l e R s m args below meth c n0 T h k n) (hx : p.tables.exec = Jvm.exec) (hZ : Z.Warmed39 s.vm) {a : Addr} {vs : List Value} (A : own_A Z h a .byte vs) (ha : n0 ≤ a) {j x : Int32} {i : Nat} (hj : ¬ j < 0) (hi : j.toNatClampNeg = i) (hl : i < vs.length) {g : JFrame} (hg : g.method = m) {rest : List Value} (hs : g.stack = .int x :: .int j :: .ref a :: rest) (hd : decode c.code g.pc = .ok (.bastore, 1))
    (K : ∀ T' h', own_S p l e R s m args below meth c n0 T' h' k n → Wr h h' a i (.int x.toInt8.toInt32) → own_A Z h' a .byte (vs.set i (.int x.toInt8.toInt32)) → own_Ends p.tables e below P (T'.setTop { g with pc := g.pc + 1, stack := rest })) : own_Ends p.tables e below P (T.setTop g) := by
  obtain ⟨locs, X, e1, N⟩ := Y
  obtain ⟨cl, A, q, r⟩ := A
  obtain ⟨T', h', X', e', W, st⟩ := stB X hx hZ e1 A (own_in q hj hi hl) hg hs hd
  have W' := W; rw [hi] at W'
  exact own_st st (K T' h' ⟨_, X', e', Fr.snoc X' N ha⟩ W' (own_A.set A q r W'))
theorem own_stC (Y : own_S p l e R s m args below meth c n0 T h k n) (hx : p.tables.exec = Jvm.exec) (hZ : Z.Warmed39 s.vm) {a : Addr} {vs : List Value} (A : own_A Z h a .char vs) (ha : n0 ≤ a) {j x : Int32} {i : Nat} (hj : ¬ j < 0) (hi : j.toNatClampNeg = i) (hl : i < vs.length) {g : JFrame} (hg : g.method = m) {rest : List Value} (hs : g.stack = .int x :: .int j :: .ref a :: rest) (hd : decode c.code g.pc = .ok (.castore, 1))
    (K : ∀ T' h', own_S p l e R s m args below meth c n0 T' h' k n → Wr h h' a i (.int x.toUInt32.toUInt16.toUInt32.toInt32) → own_A Z h' a .char (vs.set i (.int x.toUInt32.toUInt16.toUInt32.toInt32)) → own_Ends p.tables e below P (T'.setTop { g with pc := g.pc + 1, stack := rest })) : own_Ends p.tables e below P (T.setTop g) := by
  obtain ⟨locs, X, e1, N⟩ := Y
  obtain ⟨cl, A, q, r⟩ := A
  obtain ⟨T', h', X', e', W, st⟩ := stC X hx hZ e1 A (own_in q hj hi hl) hg hs hd
  have W' := W; rw [hi] at W'
  exact own_st st (K T' h' ⟨_, X', e', Fr.snoc X' N ha⟩ W' (own_A.set A q r W'))
theorem own_len (Y : own_S p l e R s m args below meth c n0 T h k n) (hx : p.tables.exec = Jvm.exec) (hZ : Z.Warmed39 s.vm) {a : Addr} {ty : FieldType} {vs : List Value} (A : own_A Z h a ty vs) {z : Int32} (hz : vs.length.toInt32 = z) {g : JFrame} (hg : g.method = m) {rest : List Value} (hs : g.stack = .ref a :: rest) (hd : decode c.code g.pc = .ok (.arraylength, 1))
    (K : own_Ends p.tables e below P (T.setTop { g with pc := g.pc + 1, stack := .int z :: rest })) : own_Ends p.tables e below P (T.setTop g) := by
  obtain ⟨locs, X, e1, N⟩ := Y
  obtain ⟨cl, A, q, r⟩ := A
  refine own_st (fun t => X.arraylength hx (by rw [e1]; exact A.1) (State.isArrayOf_alike hZ.alike A.2.1) hg hs hd t) ?_
  rw [own_sz q, hz]; exact K
theorem own_ldI (Y : own_S p l e R s m args below meth c n0 T h k n) (hx : p.tables.exec = Jvm.exec) (hZ : Z.Warmed39 s.vm) {a : Addr} {vs : List Value} (A : own_A Z h a .int vs) {j : Int32} {i : Nat} (hj : ¬ j < 0) (hi : j.toNatClampNeg = i) (hl : i < vs.length) {v : Value} (hv : vs[i]? = some v) {g : JFrame} (hg : g.method = m) {rest : List Value} (hs : g.stack = .int j :: .ref a :: rest) (hd : decode c.code g.pc = .ok (.iaload, 1))
    (K : own_Ends p.tables e below P (T.setTop { g with pc := g.pc + 1, stack := v :: rest })) : own_Ends p.tables e below P (T.setTop g) := by
  obtain ⟨locs, X, e1, N⟩ := Y
  obtain ⟨cl, A, q, r⟩ := A
  exact own_st (fun t => X.iaload hx (by rw [e1]; exact A.1) (State.isArrayOf_alike hZ.alike A.2.1) A.2.2 (own_in q hj hi hl) (own_get q hi hv) hg hs hd t) K
theorem own_ldB (Y : own_S p l e R s m args below meth c n0 T h k n) (hx : p.tables.exec = Jvm.exec) (hZ : Z.Warmed39 s.vm) {a : Addr} {vs : List Value} (A : own_A Z h a .byte vs) {j : Int32} {i : Nat} (hj : ¬ j < 0) (hi : j.toNatClampNeg = i) (hl : i < vs.length) {v : Value} (hv : vs[i]? = some v) {g : JFrame} (hg : g.method = m) {rest : List Value} (hs : g.stack = .int j :: .ref a :: rest) (hd : decode c.code g.pc = .ok (.baload, 1))
    (K : own_Ends p.tables e below P (T.setTop { g with pc := g.pc + 1, stack := v :: rest })) : own_Ends p.tables e below P (T.setTop g) := by
  obtain ⟨locs, X, e1, N⟩ := Y
  obtain ⟨cl, A, q, r⟩ := A
  exact own_st (fun t => X.baloadBytes hx (by rw [e1]; exact A.1) (State.isArrayOf_alike hZ.alike A.2.1) A.2.2 (own_in q hj hi hl) (own_get q hi hv) hg hs hd t) K
theorem own_ldC (Y : own_S p l e R s m args below meth c n0 T h k n) (hx : p.tables.exec = Jvm.exec) (hZ : Z.Warmed39 s.vm) {a : Addr} {vs : List Value} (A : own_A Z h a .char vs) {j : Int32} {i : Nat} (hj : ¬ j < 0) (hi : j.toNatClampNeg = i) (hl : i < vs.length) {v : Value} (hv : vs[i]? = some v) {g : JFrame} (hg : g.method = m) {rest : List Value} (hs : g.stack = .int j :: .ref a :: rest) (hd : decode c.code g.pc = .ok (.caload, 1))
    (K : own_Ends p.tables e below P (T.setTop { g with pc := g.pc + 1, stack := v :: rest })) : own_Ends p.tables e below P (T.setTop g) := by
  obtain ⟨locs, X, e1, N⟩ := Y
  obtain ⟨cl, A, q, r⟩ := A
  exact own_st (fun t => X.caload hx (by rw [e1]; exact A.1) (State.isArrayOf_alike hZ.alike A.2.1) A.2.2 (own_in q hj hi hl) (own_get q hi hv) hg hs hd t) K
theorem own_ldJ (Y : own_S p l e R s m args below meth c n0 T h k n) (hx : p.tables.exec = Jvm.exec) (hZ : Z.Warmed39 s.vm) {a : Addr} {vs : List Value} (A : own_A Z h a .long vs) {j : Int32} {i : Nat} (hj : ¬ j < 0) (hi : j.toNatClampNeg = i) (hl : i < vs.length) {v : Value} (hv : vs[i]? = some v) {g : JFrame} (hg : g.method = m) {rest : List Value} (hs : g.stack = .int j :: .ref a :: rest) (hd : decode c.code g.pc = .ok (.laload, 1))
    (K : own_Ends p.tables e below P (T.setTop { g with pc := g.pc + 1, stack := v :: rest })) : own_Ends p.tables e below P (T.setTop g) := by
  obtain ⟨locs, X, e1, N⟩ := Y
  obtain ⟨cl, A, q, r⟩ := A
  exact own_st (fun t => X.laload hx (by rw [e1]; exact A.1) (State.isArrayOf_alike hZ.alike A.2.1) A.2.2 (own_in q hj hi hl) (own_get q hi hv) hg hs hd t) K
/-! constants -/
theorem own_ldcI (Y : own_S p l e R s m args below meth c n0 T h k n) (hx : p.tables.exec = Jvm.exec) (hZ : Z.Warmed39 s.vm) {own : String} {index : Nat} {v : Int32} (hown : s.vm.findClass own = some m.cls) (w : (Jvm.Cond.constant own index v).before a0 Z = true) {g : JFrame} (hg : g.method = m) (hd : decode c.code g.pc = .ok (.ldc index, 2))
    (K : own_Ends p.tables e below P (T.setTop { g with pc := g.pc + 2, stack := .int v :: g.stack })) : own_Ends p.tables e below P (T.setTop g) := by
  obtain ⟨locs, X, e1, N⟩ := Y
  exact own_st (X.ldcInt hx hown (mvT hZ w) hg hd) K
theorem own_ldcJ (Y : own_S p l e R s m args below meth c n0 T h k n) (hx : p.tables.exec = Jvm.exec) (hZ : Z.Warmed39 s.vm) {own : String} {index : Nat} {v : Int64} (hown : s.vm.findClass own = some m.cls) (w : (Jvm.Cond.constantLong own index v).before a0 Z = true) {g : JFrame} (hg : g.method = m) (hd : decode c.code g.pc = .ok (.ldc2_w index, 3))
    (K : own_Ends p.tables e below P (T.setTop { g with pc := g.pc + 3, stack := .long v :: g.stack })) : own_Ends p.tables e below P (T.setTop g) := by
  obtain ⟨locs, X, e1, N⟩ := Y
  exact own_st (X.ldc2Long hx hown (mvT hZ w) hg hd) K
theorem own_irem (Y : own_S p l e R s m args below meth c n0 T h k n) (hx : p.tables.exec = Jvm.exec) {g : JFrame} (hg : g.method = m) {x y : Int32} {rest : List Value} (hd : decode c.code g.pc = .ok (.irem, 1)) (hs : g.stack = .int y :: .int x :: rest) (hy : y ≠ 0)
    (K : own_Ends p.tables e below P (T.setTop { g with pc := g.pc + 1, stack := .int (x % y) :: rest })) : own_Ends p.tables e below P (T.setTop g) := by
  obtain ⟨locs, X, e1, N⟩ := Y
  exact own_st (fun t => iremM X hx hg hd hs hy) K
/-! calls by contract -/
theorem own_callS (Y : own_S p l e R s m args below meth c n0 T h k n) (hx : p.tables.exec = Jvm.exec) (hZ : Z.Warmed39 s.vm) {own : String} {index : Nat} {y : MethodName} {bytes : ByteArray} {maxL : Nat} {ret : Option FieldType} (hown : s.vm.findClass own = some m.cls) (wl : (Jvm.Cond.methodLink own index y).before a0 Z = true) (wst : (Jvm.Cond.static y).before a0 Z = true) (wi : (Jvm.Cond.initialized y.cls).before a0 Z = true) (wc : (Jvm.Cond.code y bytes maxL ret).before a0 Z = true)
    (hy : y.cls ≠ "java/lang/invoke/MethodHandle" ∧ y.cls ≠ "java/lang/invoke/VarHandle") {rm : Room} {argsL rest : List Value} {Qf : Option Value → Heap → Prop} (hM : own_Con l Z y bytes maxL ret [] rm argsL.toArray h n0 Qf) {W : Nat} (hfr : rm.frames + 1 ≤ R.frames) (hlo : W + (maxL + 11) + rm.locals ≤ R.locals) (hc : k + rm.cells ≤ R.cells) (hsl : n + rm.slots ≤ R.slots)
    {g : JFrame} (hg : g.method = m) (hsize : g.locals.size = c.maxLocals) (hlen : ∀ sig, parseMethodDescriptor y.desc = some sig → argsL.length = sig.parameters.length) (hs : g.stack = argsL.reverse ++ rest) (hW : 2 * g.monitorRoom + (rest.map fun v => v.category).sum ≤ W) (hd : decode c.code g.pc = .ok (.invokestatic index, 3))
    (K : ∀ T' h' v, own_S p l e R s m args below meth c n0 T' h' (k + rm.cells) (n + rm.slots) → Qf v h' → own_Ends p.tables e below P (T'.setTop { g with pc := g.pc + 3, stack := v.toList ++ rest })) : own_Ends p.tables e below P (T.setTop g) := by
  obtain ⟨locs, X, e1, N⟩ := Y
  obtain ⟨v, vm1, ⟨T', L', k', n'⟩, -, X', ⟨L, hQ, l1, y1, z1⟩, st⟩ := Jvm.LawKit.callS X hx hown (mvT hZ wl) (mvT hZ wst) (mvT hZ wi) (mvT hZ wc) hy (backOf (W := W) (Q := fun v h L => Fr n0 L ∧ Qf v h) hM hZ wc wi hfr hlo) hg hsize hlen hs hW hd (fun _ _ => ⟨rfl, e1, hc, hsl⟩)
  dsimp only [Pt.U, Pt.locs, Pt.cells, Pt.slots] at X' l1 y1 z1 st hQ
  subst l1 y1 z1
  exact own_st st (K T' _ v ⟨_, X', rfl, Fr.app N hQ.1⟩ hQ.2)
theorem own_callN (Y : own_S p l e R s m args below meth c n0 T h k n) (hx : p.tables.exec = Jvm.exec) (hZ : Z.Warmed39 s.vm) {own : String} {index : Nat} {y : MethodName} {bytes : ByteArray} {maxL : Nat} (hy1 : y.name = "<init>") (hown : s.vm.findClass own = some m.cls) (wl : (Jvm.Cond.methodLink own index y).before a0 Z = true) (win : (Jvm.Cond.instanceMethod y).before a0 Z = true) (wi : (Jvm.Cond.initialized y.cls).before a0 Z = true) (wc : (Jvm.Cond.code y bytes maxL none).before a0 Z = true)
    (hy : y.cls ≠ "java/lang/invoke/MethodHandle" ∧ y.cls ≠ "java/lang/invoke/VarHandle") {rm : Room} {a : Addr} {argsL rest : List Value} {Qf : Option Value → Heap → Prop} (hM : own_Con l Z y bytes maxL none [] rm (.ref a :: argsL).toArray h n0 Qf) {W : Nat} (hfr : rm.frames + 1 ≤ R.frames) (hlo : W + (maxL + 11) + rm.locals ≤ R.locals) (hc : k + rm.cells ≤ R.cells) (hsl : n + rm.slots ≤ R.slots)
    {g : JFrame} (hg : g.method = m) (hsize : g.locals.size = c.maxLocals) (hlen : ∀ sig, parseMethodDescriptor y.desc = some sig → argsL.length = sig.parameters.length) (hs : g.stack = argsL.reverse ++ .ref a :: rest) (hW : 2 * g.monitorRoom + (rest.map fun v => v.category).sum ≤ W) (hd : decode c.code g.pc = .ok (.invokespecial index, 3))
    (K : ∀ T' h' v, own_S p l e R s m args below meth c n0 T' h' (k + rm.cells) (n + rm.slots) → Qf v h' → own_Ends p.tables e below P (T'.setTop { g with pc := g.pc + 3, stack := v.toList ++ rest })) : own_Ends p.tables e below P (T.setTop g) := by
  obtain ⟨locs, X, e1, N⟩ := Y
  obtain ⟨v, vm1, ⟨T', L', k', n'⟩, -, X', ⟨L, hQ, l1, y1, z1⟩, st⟩ := X.specialBack hx hy1 hown (mvT hZ wl) (mvT hZ win) (mvT hZ wc) hy (backOf (W := W) (Q := fun v h L => Fr n0 L ∧ Qf v h) hM hZ wc wi hfr hlo) hg hsize (Steps.refl _) hlen hs hW hd (fun _ _ => ⟨rfl, e1, hc, hsl⟩)
  dsimp only [Pt.U, Pt.locs, Pt.cells, Pt.slots] at X' l1 y1 z1 st hQ
  subst l1 y1 z1
  exact own_st (fun t q => st.trans q) (K T' _ v ⟨_, X', rfl, Fr.app N hQ.1⟩ hQ.2)
theorem own_callV (Y : own_S p l e R s m args below meth c n0 T h k n) (hx : p.tables.exec = Jvm.exec) (hZ : Z.Warmed39 s.vm) {own C : String} {index : Nat} {y z : MethodName} {bytes : ByteArray} {maxL : Nat} {ret : Option FieldType} (hown : s.vm.findClass own = some m.cls) (wl : (Jvm.Cond.methodLink own index y).before a0 Z = true) (wd : (Jvm.Cond.declares y).before a0 Z = true) (hnf : NotFace s y) (wse : (Jvm.Cond.selects C y z).before a0 Z = true) (win : (Jvm.Cond.instanceMethod z).before a0 Z = true) (wi : (Jvm.Cond.initialized z.cls).before a0 Z = true) (wc : (Jvm.Cond.code z bytes maxL ret).before a0 Z = true)
    (hy : y.cls ≠ "java/lang/invoke/MethodHandle" ∧ y.cls ≠ "java/lang/invoke/VarHandle") {rm : Room} {a : Addr} (E : Exa Z h a C) {argsL rest : List Value} {Qf : Option Value → Heap → Prop} (hM : own_Con l Z z bytes maxL ret [] rm (.ref a :: argsL).toArray h n0 Qf) {W : Nat} (hfr : rm.frames + 1 ≤ R.frames) (hlo : W + (maxL + 11) + rm.locals ≤ R.locals) (hc : k + rm.cells ≤ R.cells) (hsl : n + rm.slots ≤ R.slots)
    {g : JFrame} (hg : g.method = m) (hsize : g.locals.size = c.maxLocals) (hlen : ∀ sig, parseMethodDescriptor y.desc = some sig → argsL.length = sig.parameters.length) (hs : g.stack = argsL.reverse ++ .ref a :: rest) (hW : 2 * g.monitorRoom + (rest.map fun v => v.category).sum ≤ W) (hd : decode c.code g.pc = .ok (.invokevirtual index, 3))
    (K : ∀ T' h' v, own_S p l e R s m args below meth c n0 T' h' (k + rm.cells) (n + rm.slots) → Qf v h' → own_Ends p.tables e below P (T'.setTop { g with pc := g.pc + 3, stack := v.toList ++ rest })) : own_Ends p.tables e below P (T.setTop g) := by
  obtain ⟨locs, X, e1, N⟩ := Y
  obtain ⟨cq, kq, qa, qb, qc⟩ := isOf hZ e1 E
  obtain ⟨v, vm1, ⟨T', L', k', n'⟩, -, X', ⟨L, hQ, l1, y1, z1⟩, st⟩ := X.virtualBack hx hown (mvT hZ wl) (mvT hZ wd) hnf (mvT hZ wse) (mvT hZ win) hy (backOf (W := W) (Q := fun v h L => Fr n0 L ∧ Qf v h) hM hZ wc wi hfr hlo) qa qc hg hsize (Steps.refl _) hlen hs hW hd (fun _ _ => ⟨rfl, e1, hc, hsl⟩)
  dsimp only [Pt.U, Pt.locs, Pt.cells, Pt.slots] at X' l1 y1 z1 st hQ
  subst l1 y1 z1
  exact own_st (fun t q => st.trans q) (K T' _ v ⟨_, X', rfl, Fr.app N hQ.1⟩ hQ.2)
theorem own_callU (Y : own_S p l e R s m args below meth c n0 T h k n) (hx : p.tables.exec = Jvm.exec) (hZ : Z.Warmed39 s.vm) {own C owner : String} {index : Nat} {y z : MethodName} {bytes : ByteArray} {maxL : Nat} {ret : Option FieldType} (hown : s.vm.findClass own = some m.cls) (wl : (Jvm.Cond.methodLink own index y).before a0 Z = true) (wsm : (Jvm.Cond.sameMethod y.cls owner y.name y.desc).before a0 Z = true) (wd : (Jvm.Cond.declares ⟨owner, y.name, y.desc⟩).before a0 Z = true) (wse : (Jvm.Cond.selects C y z).before a0 Z = true) (win : (Jvm.Cond.instanceMethod z).before a0 Z = true) (wi : (Jvm.Cond.initialized z.cls).before a0 Z = true) (wc : (Jvm.Cond.code z bytes maxL ret).before a0 Z = true)
    (hy : owner ≠ "java/lang/invoke/MethodHandle" ∧ owner ≠ "java/lang/invoke/VarHandle") {rm : Room} {a : Addr} (E : Exa Z h a C) {argsL rest : List Value} {Qf : Option Value → Heap → Prop} (hM : own_Con l Z z bytes maxL ret [] rm (.ref a :: argsL).toArray h n0 Qf) {W : Nat} (hfr : rm.frames + 1 ≤ R.frames) (hlo : W + (maxL + 11) + rm.locals ≤ R.locals) (hc : k + rm.cells ≤ R.cells) (hsl : n + rm.slots ≤ R.slots)
    {g : JFrame} (hg : g.method = m) (hsize : g.locals.size = c.maxLocals) (hlen : ∀ sig, parseMethodDescriptor y.desc = some sig → argsL.length = sig.parameters.length) (hs : g.stack = argsL.reverse ++ .ref a :: rest) (hW : 2 * g.monitorRoom + (rest.map fun v => v.category).sum ≤ W) (hd : decode c.code g.pc = .ok (.invokevirtual index, 3))
    (K : ∀ T' h' v, own_S p l e R s m args below meth c n0 T' h' (k + rm.cells) (n + rm.slots) → Qf v h' → own_Ends p.tables e below P (T'.setTop { g with pc := g.pc + 3, stack := v.toList ++ rest })) : own_Ends p.tables e below P (T.setTop g) := by
  obtain ⟨locs, X, e1, N⟩ := Y
  obtain ⟨cq, kq, qa, qb, qc⟩ := isOf hZ e1 E
  obtain ⟨v, vm1, ⟨T', L', k', n'⟩, -, X', ⟨L, hQ, l1, y1, z1⟩, st⟩ := X.virtualBackUp hx hown (mvT hZ wl) (mvT hZ wsm) (mvT hZ wd) hy (mvT hZ wse) (mvT hZ win) (backOf (W := W) (Q := fun v h L => Fr n0 L ∧ Qf v h) hM hZ wc wi hfr hlo) qa qc hg hsize (Steps.refl _) hlen hs hW hd (fun _ _ => ⟨rfl, e1, hc, hsl⟩)
  dsimp only [Pt.U, Pt.locs, Pt.cells, Pt.slots] at X' l1 y1 z1 st hQ
  subst l1 y1 z1
  exact own_st (fun t q => st.trans q) (K T' _ v ⟨_, X', rfl, Fr.app N hQ.1⟩ hQ.2)
theorem own_callP (Y : own_S p l e R s m args below meth c n0 T h k n) (hx : p.tables.exec = Jvm.exec) (hZ : Z.Warmed39 s.vm) {own C : String} {index : Nat} {y : MethodName} {bytes : ByteArray} {maxL : Nat} {ret : Option FieldType} (hown : s.vm.findClass own = some m.cls) (wl : (Jvm.Cond.methodLink own index y).before a0 Z = true) {nn : Nat} (win : (Jvm.Cond.instanceMethod y).before a0 Z = true) (wn : (Jvm.Cond.instantiable y.cls nn).before a0 Z = true) (wp : (Jvm.Cond.privateMethod y).before a0 Z = true) (wi : (Jvm.Cond.initialized y.cls).before a0 Z = true) (wc : (Jvm.Cond.code y bytes maxL ret).before a0 Z = true)
    (hy : y.cls ≠ "java/lang/invoke/MethodHandle" ∧ y.cls ≠ "java/lang/invoke/VarHandle") {rm : Room} {a : Addr} (E : Exa Z h a C) {argsL rest : List Value} {Qf : Option Value → Heap → Prop} (hM : own_Con l Z y bytes maxL ret [] rm (.ref a :: argsL).toArray h n0 Qf) {W : Nat} (hfr : rm.frames + 1 ≤ R.frames) (hlo : W + (maxL + 11) + rm.locals ≤ R.locals) (hc : k + rm.cells ≤ R.cells) (hsl : n + rm.slots ≤ R.slots)
    {g : JFrame} (hg : g.method = m) (hsize : g.locals.size = c.maxLocals) (hlen : ∀ sig, parseMethodDescriptor y.desc = some sig → argsL.length = sig.parameters.length) (hs : g.stack = argsL.reverse ++ .ref a :: rest) (hW : 2 * g.monitorRoom + (rest.map fun v => v.category).sum ≤ W) (hd : decode c.code g.pc = .ok (.invokevirtual index, 3))
    (K : ∀ T' h' v, own_S p l e R s m args below meth c n0 T' h' (k + rm.cells) (n + rm.slots) → Qf v h' → own_Ends p.tables e below P (T'.setTop { g with pc := g.pc + 3, stack := v.toList ++ rest })) : own_Ends p.tables e below P (T.setTop g) := by
  obtain ⟨locs, X, e1, N⟩ := Y
  obtain ⟨cell, q, q'⟩ := E.cell
  have wn' : (Jvm.Cond.instantiable y.cls nn).before #[] s = true := mvT hZ wn
  obtain ⟨ci, ki, hi1, hi2, -, hi4, -⟩ := Cond.instantiable_spec wn'
  have wse : (Jvm.Cond.selects y.cls y y).before args s = true := selects_self_of_private hi1 hi2 (by simpa using (Bool.or_eq_false_iff.mp hi4).1) (Cond.privateMethod_at (mvP hZ wp (args := #[]))) (mvT hZ win) hy
  obtain ⟨v, vm1, ⟨T', L', k', n'⟩, -, X', ⟨L, hQ, l1, y1, z1⟩, st⟩ := X.privateBack hx hown (mvT hZ wl) (mvT hZ win) wse (Cond.privateMethod_at (mvP hZ wp (args := #[]))) (mvT hZ wc) hy (backOf (W := W) (Q := fun v h L => Fr n0 L ∧ Qf v h) hM hZ wc wi hfr hlo) hg hsize (Steps.refl _) (by rw [e1]; exact q) q' hlen hs hW hd (fun _ _ => ⟨rfl, e1, hc, hsl⟩)
  dsimp only [Pt.U, Pt.locs, Pt.cells, Pt.slots] at X' l1 y1 z1 st hQ
  subst l1 y1 z1
  exact own_st (fun t q => st.trans q) (K T' _ v ⟨_, X', rfl, Fr.app N hQ.1⟩ hQ.2)
end OwnLayer
section OwnShort
variable {p : Program} {l : Launch} {e : Env} {R : Room} {s : State} {m : MethodId} {args : Array Value} {below : List Frame} {meth : Method} {c : Code} {n0 : Nat} {T : State} {h : Heap} {k n : Nat} {P : Outcome → State → Prop} {bs : ByteArray} {pc pc' : Nat} {L l' : Array Slot} {S rest : List Value}
theorem own_w {a0 : Array Value} {Z : State} (hw : ∀ d ∈ tables_1, d.before a0 Z = true) (i : Nat) {d : Jvm.Cond} (h : tables_1[i]? = some d) : d.before a0 Z = true := hw _ (List.mem_of_getElem? h)
theorem own_wl {a0 : Array Value} {Z : State} (hw : ∀ d ∈ tables_1, d.before a0 Z = true) (i : Nat) {C O n d : String} (h : tables_1[i]? = some (Jvm.Cond.lays C O n d)) : Jvm.RoadKit.Laid Z a0 C O n d := Or.inl (own_w hw i h)
theorem own_wf {a0 : Array Value} {Z : State} (hw : ∀ d ∈ tables_1, d.before a0 Z = true) (i : Nat) {C O n d : String} (h : tables_1[i]? = some (Jvm.Cond.laysFinal C O n d)) : Jvm.RoadKit.Laid Z a0 C O n d := Or.inr (own_w hw i h)
theorem own_sn {Z : State} {a0 : Array Value} {h h' : Heap} {a : Addr} {C O n d O' n' d' : String} {t t' : FieldType} {v v' : Value} (F : Fld Z h a O n d v) (W : Wr h h' a (Jvm.RoadKit.slotOf Z O' n' d') v') (L : Jvm.RoadKit.Laid Z a0 C O n d) (L' : Jvm.RoadKit.Laid Z a0 C O' n' d') (hn : n ≠ n') (ht : parseFieldDescriptor d = some t) (ht' : parseFieldDescriptor d' = some t') : Fld Z h' a O n d v := Fld.other W F (Or.inr (slot_ne L L' hn ht ht'))
theorem o_aloadN (Y : own_S p l e R s m args below meth c n0 T h k n) (hx : p.tables.exec = Jvm.exec) (hby : c.code = bs) {q : Fin 4} {v : Value} (hd : decode bs pc = .ok (.aload_n q, 1)) (hl : L[q.val]? = some (.val v)) (hv : v.isRef = true) (g : own_Ends p.tables e below P (T.setTop (mkF m (pc + 1) L (v :: S)))) : own_Ends p.tables e below P (T.setTop (mkF m pc L S)) := own_st (fun t_ => XS.aloadN (own_here Y) hx rfl (hb hby hd) hl hv) g
theorem o_aload (Y : own_S p l e R s m args below meth c n0 T h k n) (hx : p.tables.exec = Jvm.exec) (hby : c.code = bs) {q : Nat} {v : Value} (hd : decode bs pc = .ok (.aload q, 2)) (hl : L[q]? = some (.val v)) (hv : v.isRef = true) (g : own_Ends p.tables e below P (T.setTop (mkF m (pc + 2) L (v :: S)))) : own_Ends p.tables e below P (T.setTop (mkF m pc L S)) := own_st (fun t_ => XS.aload (own_here Y) hx rfl (hb hby hd) hl hv) g
theorem o_iloadN (Y : own_S p l e R s m args below meth c n0 T h k n) (hx : p.tables.exec = Jvm.exec) (hby : c.code = bs) {q : Fin 4} {v : Int32} (hd : decode bs pc = .ok (.iload_n q, 1)) (hl : L[q.val]? = some (.val (.int v))) (g : own_Ends p.tables e below P (T.setTop (mkF m (pc + 1) L (.int v :: S)))) : own_Ends p.tables e below P (T.setTop (mkF m pc L S)) := own_st (fun t_ => XS.iloadN (own_here Y) hx rfl (hb hby hd) hl) g
theorem o_iload (Y : own_S p l e R s m args below meth c n0 T h k n) (hx : p.tables.exec = Jvm.exec) (hby : c.code = bs) {q : Nat} {v : Int32} (hd : decode bs pc = .ok (.iload q, 2)) (hl : L[q]? = some (.val (.int v))) (g : own_Ends p.tables e below P (T.setTop (mkF m (pc + 2) L (.int v :: S)))) : own_Ends p.tables e below P (T.setTop (mkF m pc L S)) := own_st (fun t_ => XS.iload (own_here Y) hx rfl (hb hby hd) hl) g
theorem o_iconst (Y : own_S p l e R s m args below meth c n0 T h k n) (hx : p.tables.exec = Jvm.exec) (hby : c.code = bs) {i : Int} {x : Int32} (hd : decode bs pc = .ok (.iconst i, 1)) (he : Int32.ofInt i = x) (g : own_Ends p.tables e below P (T.setTop (mkF m (pc + 1) L (.int x :: S)))) : own_Ends p.tables e below P (T.setTop (mkF m pc L S)) := by
  subst he; exact own_st (fun t_ => XS.iconst (own_here Y) hx rfl (hb hby hd)) g
theorem o_bipush (Y : own_S p l e R s m args below meth c n0 T h k n) (hx : p.tables.exec = Jvm.exec) (hby : c.code = bs) {i : Int} {x : Int32} (hd : decode bs pc = .ok (.bipush i, 2)) (he : (Int8.ofInt i).toInt32 = x) (g : own_Ends p.tables e below P (T.setTop (mkF m (pc + 2) L (.int x :: S)))) : own_Ends p.tables e below P (T.setTop (mkF m pc L S)) := by
  subst he; exact own_st (fun t_ => XS.bipush (own_here Y) hx rfl (hb hby hd)) g
theorem o_sipush (Y : own_S p l e R s m args below meth c n0 T h k n) (hx : p.tables.exec = Jvm.exec) (hby : c.code = bs) {i : Int} {x : Int32} (hd : decode bs pc = .ok (.sipush i, 3)) (he : (Int16.ofInt i).toInt32 = x) (g : own_Ends p.tables e below P (T.setTop (mkF m (pc + 3) L (.int x :: S)))) : own_Ends p.tables e below P (T.setTop (mkF m pc L S)) := by
  subst he; exact own_st (fun t_ => XS.sipush (own_here Y) hx rfl (hb hby hd)) g
theorem o_aconstNull (Y : own_S p l e R s m args below meth c n0 T h k n) (hx : p.tables.exec = Jvm.exec) (hby : c.code = bs)  (hd : decode bs pc = .ok (.aconst_null, 1))  (g : own_Ends p.tables e below P (T.setTop (mkF m (pc + 1) L (.null :: S)))) : own_Ends p.tables e below P (T.setTop (mkF m pc L S)) := own_st (fun t_ => XS.aconstNull (own_here Y) hx rfl (hb hby hd)) g
theorem o_istore (Y : own_S p l e R s m args below meth c n0 T h k n) (hx : p.tables.exec = Jvm.exec) (hby : c.code = bs) {q : Nat} {x : Int32} (hd : decode bs pc = .ok (.istore q, 2)) (hs : S = .int x :: rest) (hl : storeLocals L q (.int x) = some l') (g : own_Ends p.tables e below P (T.setTop (mkF m (pc + 2) l' rest))) : own_Ends p.tables e below P (T.setTop (mkF m pc L S)) := own_st (fun t_ => XS.istore (own_here Y) hx rfl (hb hby hd) hs hl) g
theorem o_istoreN (Y : own_S p l e R s m args below meth c n0 T h k n) (hx : p.tables.exec = Jvm.exec) (hby : c.code = bs) {q : Fin 4} {x : Int32} (hd : decode bs pc = .ok (.istore_n q, 1)) (hs : S = .int x :: rest) (hl : storeLocals L q.val (.int x) = some l') (g : own_Ends p.tables e below P (T.setTop (mkF m (pc + 1) l' rest))) : own_Ends p.tables e below P (T.setTop (mkF m pc L S)) := own_st (fun t_ => XS.istoreN (own_here Y) hx rfl (hb hby hd) hs hl) g
theorem o_astore (Y : own_S p l e R s m args below meth c n0 T h k n) (hx : p.tables.exec = Jvm.exec) (hby : c.code = bs) {q : Nat} {x : Value} (hd : decode bs pc = .ok (.astore q, 2)) (hs : S = x :: rest) (hv : x.isRef = true) (hl : storeLocals L q x = some l') (g : own_Ends p.tables e below P (T.setTop (mkF m (pc + 2) l' rest))) : own_Ends p.tables e below P (T.setTop (mkF m pc L S)) := own_st (fun t_ => XS.astore (own_here Y) hx rfl (hb hby hd) hs hv hl) g
theorem o_astoreN (Y : own_S p l e R s m args below meth c n0 T h k n) (hx : p.tables.exec = Jvm.exec) (hby : c.code = bs) {q : Fin 4} {x : Value} (hd : decode bs pc = .ok (.astore_n q, 1)) (hs : S = x :: rest) (hv : x.isRef = true) (hl : storeLocals L q.val x = some l') (g : own_Ends p.tables e below P (T.setTop (mkF m (pc + 1) l' rest))) : own_Ends p.tables e below P (T.setTop (mkF m pc L S)) := own_st (fun t_ => XS.astoreN (own_here Y) hx rfl (hb hby hd) hs hv hl) g
theorem o_iinc (Y : own_S p l e R s m args below meth c n0 T h k n) (hx : p.tables.exec = Jvm.exec) (hby : c.code = bs) {q : Nat} {ct : Int} {x : Int32} (hd : decode bs pc = .ok (.iinc q ct, 3)) (hl : L[q]? = some (.val (.int x))) (hl' : storeLocals L q (.int (x + Int32.ofInt ct)) = some l') (g : own_Ends p.tables e below P (T.setTop (mkF m (pc + 3) l' S))) : own_Ends p.tables e below P (T.setTop (mkF m pc L S)) := own_st (fun t_ => XS.iinc (own_here Y) hx rfl (hb hby hd) hl hl') g
theorem o_dup (Y : own_S p l e R s m args below meth c n0 T h k n) (hx : p.tables.exec = Jvm.exec) (hby : c.code = bs) {x : Value} (hd : decode bs pc = .ok (.dup, 1)) (hs : S = x :: rest) (hc : x.category = 1) (g : own_Ends p.tables e below P (T.setTop (mkF m (pc + 1) L (x :: x :: rest)))) : own_Ends p.tables e below P (T.setTop (mkF m pc L S)) := own_st (fun t_ => XS.dup (own_here Y) hx rfl (hb hby hd) hs hc) g
theorem o_goto (Y : own_S p l e R s m args below meth c n0 T h k n) (hx : p.tables.exec = Jvm.exec) (hby : c.code = bs) {o : Int} (hd : decode bs pc = .ok (.goto o, 3)) (ho : 0 ≤ (pc : Int) + o) (hp : ((pc : Int) + o).toNat = pc') (g : own_Ends p.tables e below P (T.setTop (mkF m pc' L S))) : own_Ends p.tables e below P (T.setTop (mkF m pc L S)) := own_st (fun t_ => XS.goto (own_here Y) hx rfl (pc0 := pc) (pc' := pc') rfl (hb hby hd) ho hp) g
theorem o_icmpNo (Y : own_S p l e R s m args below meth c n0 T h k n) (hx : p.tables.exec = Jvm.exec) (hby : c.code = bs) {cd : ClassFile.Cond} {o : Int} {x y : Int32} (hd : decode bs pc = .ok (.if_icmp cd o, 3)) (hs : S = .int y :: .int x :: rest) (hc : if_icmp.holds cd x y = false) (g : own_Ends p.tables e below P (T.setTop (mkF m (pc + 3) L rest))) : own_Ends p.tables e below P (T.setTop (mkF m pc L S)) := own_st (fun t_ => XS.icmpNo (own_here Y) hx rfl (hb hby hd) hs hc) g
theorem o_icmpYes (Y : own_S p l e R s m args below meth c n0 T h k n) (hx : p.tables.exec = Jvm.exec) (hby : c.code = bs) {cd : ClassFile.Cond} {o : Int} {x y : Int32} (hd : decode bs pc = .ok (.if_icmp cd o, 3)) (hs : S = .int y :: .int x :: rest) (hc : if_icmp.holds cd x y = true) (ho : 0 ≤ (pc : Int) + o) (hp : ((pc : Int) + o).toNat = pc') (g : own_Ends p.tables e below P (T.setTop (mkF m pc' L rest))) : own_Ends p.tables e below P (T.setTop (mkF m pc L S)) := own_st (fun t_ => XS.icmpYes (own_here Y) hx rfl (pc0 := pc) (pc' := pc') rfl (hb hby hd) hs hc ho hp) g
theorem o_ifNo (Y : own_S p l e R s m args below meth c n0 T h k n) (hx : p.tables.exec = Jvm.exec) (hby : c.code = bs) {cd : ClassFile.Cond} {o : Int} {x : Int32} (hd : decode bs pc = .ok (.ifCond cd o, 3)) (hs : S = .int x :: rest) (hc : ifCond.holds cd x = false) (g : own_Ends p.tables e below P (T.setTop (mkF m (pc + 3) L rest))) : own_Ends p.tables e below P (T.setTop (mkF m pc L S)) := own_st (fun t_ => XS.ifNo (own_here Y) hx rfl (hb hby hd) hs hc) g
theorem o_ifYes (Y : own_S p l e R s m args below meth c n0 T h k n) (hx : p.tables.exec = Jvm.exec) (hby : c.code = bs) {cd : ClassFile.Cond} {o : Int} {x : Int32} (hd : decode bs pc = .ok (.ifCond cd o, 3)) (hs : S = .int x :: rest) (hc : ifCond.holds cd x = true) (ho : 0 ≤ (pc : Int) + o) (hp : ((pc : Int) + o).toNat = pc') (g : own_Ends p.tables e below P (T.setTop (mkF m pc' L rest))) : own_Ends p.tables e below P (T.setTop (mkF m pc L S)) := own_st (fun t_ => XS.ifYes (own_here Y) hx rfl (pc0 := pc) (pc' := pc') rfl (hb hby hd) hs hc ho hp) g
theorem o_ifnullYes (Y : own_S p l e R s m args below meth c n0 T h k n) (hx : p.tables.exec = Jvm.exec) (hby : c.code = bs) {o : Int} (hd : decode bs pc = .ok (.ifnull o, 3)) (hs : S = .null :: rest) (ho : 0 ≤ (pc : Int) + o) (hp : ((pc : Int) + o).toNat = pc') (g : own_Ends p.tables e below P (T.setTop (mkF m pc' L rest))) : own_Ends p.tables e below P (T.setTop (mkF m pc L S)) := own_st (fun t_ => XS.ifnullYes (own_here Y) hx rfl (pc0 := pc) (pc' := pc') rfl (hb hby hd) hs ho hp) g
theorem o_ifnullNo (Y : own_S p l e R s m args below meth c n0 T h k n) (hx : p.tables.exec = Jvm.exec) (hby : c.code = bs) {o : Int} {b : Addr} (hd : decode bs pc = .ok (.ifnull o, 3)) (hs : S = .ref b :: rest) (g : own_Ends p.tables e below P (T.setTop (mkF m (pc + 3) L rest))) : own_Ends p.tables e below P (T.setTop (mkF m pc L S)) := own_st (fun t_ => XS.ifnullNo (own_here Y) hx rfl (hb hby hd) hs) g
end OwnShort
section OwnNums
def own_b (b : Bool) : Int32 := if b then 1 else 0
theorem own_b_t {b : Bool} (h : b = true) : own_b b = 1 := by subst h; rfl
theorem own_b_f {b : Bool} (h : b = false) : own_b b = 0 := by subst h; rfl
theorem own_b_0 (b : Bool) : own_b b = 0 ↔ b = false := by cases b <;> simp [own_b]
theorem own_b_n (b : Bool) : nar .boolean (own_b b) = own_b b := by cases b <;> rfl
theorem own_b_inj {a b : Bool} : own_b a = own_b b ↔ a = b := by cases a <;> cases b <;> simp [own_b]
theorem own_idx {j : Int32} {n : Nat} (h0 : 0 ≤ j.toInt) (h1 : j.toInt < (n : Int)) : ¬ j < 0 ∧ j.toNatClampNeg < n := by
  refine ⟨?_, ?_⟩
  · rw [Int32.lt_iff_toInt_lt]; show ¬ j.toInt < 0; omega
  · show j.toInt.toNat < n; omega
theorem own_ints {xs : List Int32} {i : Nat} (h : i < xs.length) : ∃ d, (xs.map Value.int)[i]? = some (.int d) ∧ d = xs[i] := ⟨xs[i], by simp [h], rfl⟩
theorem own_longs {xs : List Int64} {i : Nat} (h : i < xs.length) : ∃ d, (xs.map Value.long)[i]? = some (.long d) ∧ d = xs[i] := ⟨xs[i], by simp [h], rfl⟩
/-- p i, p (i + 1), .., k of them, all hold -/
def own_all (p : Nat → Bool) : Nat → Nat → Bool
  | _, 0 => true
  | i, k + 1 => p i && own_all p (i + 1) k
def own_g (xs : List Int32) (i : Nat) : Int32 := xs.getD i 0
theorem own_mget {xs : List Int32} {i : Nat} (h : i < (xs.map Value.int).length) : (xs.map Value.int)[i]? = some (.int (own_g xs i)) := by
  have h' : i < xs.length := by simpa using h
  simp [h', own_g]
theorem own_mlen {xs : List Int32} {i : Nat} (h : i < xs.length) : i < (xs.map Value.int).length := by simpa using h
theorem own_nat {j : Int32} {i : Nat} (h : j.toInt = (i : Int)) : ¬ j < 0 ∧ j.toNatClampNeg = i := by
  refine ⟨?_, ?_⟩
  · rw [Int32.lt_iff_toInt_lt]; show ¬ j.toInt < 0; omega
  · show j.toInt.toNat = i; omega
theorem own_inc {j : Int32} {i : Nat} (h : j.toInt = (i : Int)) (hi : i + 1 < 2147483648) : (j + 1).toInt = ((i + 1 : Nat) : Int) := by
  have := c_iadd j 1
  have h1 : (1 : Int32).toInt = 1 := rfl
  have := rng32 (j + 1)
  omega
theorem own_lt {x y : Int32} : x < y ↔ x.toInt < y.toInt := Int32.lt_iff_toInt_lt
theorem own_eq {x y : Int32} : x = y ↔ x.toInt = y.toInt := Int32.toInt_inj.symm
theorem own_tolen {ys : List Int32} {z : Int32} (h : z.toInt = (ys.length : Int)) : (ys.map Value.int).length.toInt32 = z := by
  have q := rng32 z
  have e : (ys.map Value.int).length = ys.length := by simp
  rw [own_eq, len_toInt (by rw [e]; omega), e, h]
theorem own_add {x y : Int32} {a b : Nat} (h1 : x.toInt = (a : Int)) (h2 : y.toInt = (b : Int)) (hi : a + b < 2147483648) : (x + y).toInt = ((a + b : Nat) : Int) := by
  have := c_iadd x y
  have := rng32 (x + y)
  omega
theorem own_sub {x y : Int32} {a b : Nat} (h1 : x.toInt = (a : Int)) (h2 : y.toInt = (b : Int)) : (x - y).toInt = (a : Int) - (b : Int) := by
  have := c_isub x y
  have := rng32 (x - y)
  have := rng32 x
  have := rng32 y
  omega
theorem own_l0 : (0 : Int32).toInt = ((0 : Nat) : Int) := rfl
theorem own_l1 : (1 : Int32).toInt = ((1 : Nat) : Int) := rfl
theorem own_l2 : (2 : Int32).toInt = ((2 : Nat) : Int) := rfl
theorem own_l3 : (3 : Int32).toInt = ((3 : Nat) : Int) := rfl
theorem own_l4 : (4 : Int32).toInt = ((4 : Nat) : Int) := rfl
theorem own_l5 : (5 : Int32).toInt = ((5 : Nat) : Int) := rfl
theorem own_l6 : (6 : Int32).toInt = ((6 : Nat) : Int) := rfl
theorem own_l7 : (7 : Int32).toInt = ((7 : Nat) : Int) := rfl
theorem own_l8 : (8 : Int32).toInt = ((8 : Nat) : Int) := rfl
end OwnNums
section OwnStart
theorem own_fldI {args : Array Value} {s : State} {t : Term} {C f d : String} {z : Int32} {a : Addr} (ev : t.eval args s none [] s = some (.ref a)) (h : (Jvm.Cond.eq (Jvm.Term.field t C f d) (Jvm.Term.int z)).value args s none s [] = some true) : Fld s s.heap a C f d (.int z) := by
  obtain ⟨x, y, h1, h2, -, -⟩ := cmp_v (Or.inl h)
  have e1 : (Term.field t C f d).eval args s none [] s = s.fieldOf? a C f d := fld_at ev
  have h3 : s.fieldOf? a C f d = some x := e1.symm.trans h1
  have hy : y = .int z := (Option.some.inj h2).symm
  subst hy
  cases x <;> simp [Cond.value, h1, h2] at h
  subst h
  exact Fld.start h3
theorem own_static {args : Array Value} {s : State} {C f d K : String} (h : (Jvm.Cond.exactly (Jvm.Term.static C f d) K).value args s none s [] = some true) (w1 : (Jvm.Cond.initialized C).before args s = true) (w2 : (Jvm.Cond.laysStatic C f d).before args s = true) : ∃ a, (Jvm.Term.static C f d).eval args s none [] s = some (.ref a) ∧ Sta s s.heap C f d (.ref a) ∧ Exa s s.heap a K := by
  obtain ⟨a, ev⟩ := exa_v h
  exact ⟨a, ev, Sta.start ev (Or.inr ⟨w1, w2⟩), Exa.start ev h⟩
end OwnStart
section OwnGraph
variable {p : Program} {l : Launch} {e : Env} {R : Room} {s : State} {m : MethodId} {args : Array Value} {below : List Frame} {meth : Method} {c : Code} {n0 : Nat} {T : State} {h : Heap} {k n : Nat} {Z : State} {a0 : Array Value} {P : Outcome → State → Prop}
theorem own_dupX2 {tb : Tables} [Ours tb] {e : Env} {below : List Frame} {T target : State} {m : MethodId} {c : Code} {g : JFrame} (h : At T m c below) (hx : tb.exec = Jvm.exec) (hg : g.method = m) {x y z : Value} {rest : List Value} (hd : decode c.code g.pc = .ok (.dup_x2, 1)) (hs : g.stack = x :: y :: z :: rest) (hc : x.category = 1) (hc' : y.category = 1) (hc'' : z.category = 1)
    (hr : Steps tb e below (T.setTop { g with pc := g.pc + 1, stack := x :: y :: z :: x :: rest }) target) : Steps tb e below (T.setTop g) target := by
  subst hg
  jvm_step h [h.top, hx, hd, hs, hc, hc', hc'']
  exact hr
/-- getfield by an entry that HAS BEEN RESOLVED (the sheet's fieldRef) -/
theorem own_getFR (Y : own_S p l e R s m args below meth c n0 T h k n) (hx : p.tables.exec = Jvm.exec) (hZ : Z.Warmed39 s.vm) {own R0 O f d : String} {index : Nat} (hown : s.vm.findClass own = some m.cls) (w : (Jvm.Cond.fieldRef own index R0 f d).before a0 Z = true) (via : Via Z R0 O f d) {a : Addr} {v : Value} (F : Fld Z h a O f d v)
    {g : JFrame} (hg : g.method = m) {rest : List Value} (hs : g.stack = .ref a :: rest) (hd : decode c.code g.pc = .ok (.getfield index, 3)) (K : ∀ T', own_S p l e R s m args below meth c n0 T' h k n → own_Ends p.tables e below P (T'.setTop { g with pc := g.pc + 3, stack := v :: rest })) : own_Ends p.tables e below P (T.setTop g) := by
  obtain ⟨locs, X, e1, N⟩ := Y
  subst hg
  obtain ⟨cell, cf, kk, i, fd, h1, h2, h3, h4, -, -, h7⟩ := F
  have hZT : Z.Warmed39 T.vm := wtrans hZ X.warmed
  have wT : (Jvm.Cond.fieldRef own index R0 f d).before a0 (Z.setVm T.vm) = true := Cond.fieldRef_warmed39 hZT w
  have hownT : (Z.setVm T.vm).vm.findClass own = some g.method.cls := by show T.vm.findClass own = _; rw [X.warmed.alike.findClass]; exact hown
  obtain ⟨c1, k1, i1, f1, hi1, hready⟩ := Cond.fieldRef_spec hownT wT
  obtain ⟨k2, hi2, ek⟩ := State.fieldFound?_setVm (s := Z) hZT.alike (via _ h2)
  cases hi1.symm.trans hi2
  refine own_st (fun t q => ?_) (K T ⟨locs, X, e1, N⟩)
  jvm_step X.here [hx, hd, getfield.wp_ready (e := e) (s := T) (f := g) X.here.top hready h3 hs (show T.heap[a]? = some cell by rw [e1]; exact h1) h4 h7]
  exact q
theorem own_ldR (Y : own_S p l e R s m args below meth c n0 T h k n) (hx : p.tables.exec = Jvm.exec) (hZ : Z.Warmed39 s.vm) {a : Addr} {vs : List Value} {ty : FieldType} (A : own_A Z h a ty vs) (hty : ty.isReference = true) {j : Int32} {i : Nat} (hj : ¬ j < 0) (hi : j.toNatClampNeg = i) (hl : i < vs.length) {v : Value} (hv : vs[i]? = some v) {g : JFrame} (hg : g.method = m) {rest : List Value} (hs : g.stack = .int j :: .ref a :: rest) (hd : decode c.code g.pc = .ok (.aaload, 1))
    (K : own_Ends p.tables e below P (T.setTop { g with pc := g.pc + 1, stack := v :: rest })) : own_Ends p.tables e below P (T.setTop g) := by
  obtain ⟨locs, X, e1, N⟩ := Y
  obtain ⟨cl, A, q, r⟩ := A
  exact own_st (fun t => X.aaload hx (by rw [e1]; exact A.1) (State.isArrayOf_alike hZ.alike A.2.1) hty A.2.2 (own_in q hj hi hl) (own_get q hi hv) hg hs hd t) K
theorem own_stR (Y : own_S p l e R s m args below meth c n0 T h k n) (hx : p.tables.exec = Jvm.exec) (hZ : Z.Warmed39 s.vm) {a : Addr} {vs : List Value} {ty : FieldType} (A : own_A Z h a ty vs) (hty : ty.isReference = true) (ha : n0 ≤ a) {j : Int32} {v : Value} {i : Nat} (F : Sto Z h a v) (hj : ¬ j < 0) (hi : j.toNatClampNeg = i) (hl : i < vs.length) {g : JFrame} (hg : g.method = m) {rest : List Value} (hs : g.stack = v :: .int j :: .ref a :: rest) (hd : decode c.code g.pc = .ok (.aastore, 1))
    (K : ∀ T' h', own_S p l e R s m args below meth c n0 T' h' k n → Wr h h' a i v → own_A Z h' a ty (vs.set i v) → own_Ends p.tables e below P (T'.setTop { g with pc := g.pc + 1, stack := rest })) : own_Ends p.tables e below P (T.setTop g) := by
  obtain ⟨locs, X, e1, N⟩ := Y
  obtain ⟨cl, A, q, r⟩ := A
  obtain ⟨T', h', X', e', W, st⟩ := stR X hx hZ e1 A (own_in q hj hi hl) hty F hg hs hd
  have W' := W; rw [hi] at W'
  exact own_st st (K T' h' ⟨_, X', e', Fr.snoc X' N ha⟩ W' (own_A.set A q r W'))
/-- an int[] goes into an int[][] -/
theorem own_sto {a b : Addr} (w : (Jvm.Cond.arrayOver (.array .int)).before a0 Z = true) (A : Exa Z h a "[[I") (B : Exa Z h b "[I") : Sto Z h a (.ref b) := by
  obtain ⟨comp, c1, k1, hcomp, hidx, hk, hkind, hname⟩ := arrayOver_specB w
  obtain ⟨ca, ka, h1, h2, h3, h4, h5⟩ := A
  obtain ⟨cb, kb, g1, g2, g3, g4, g5⟩ := B
  have e1 : Z.vm.findClass "[[I" = some c1 := hname
  have e2 : Z.vm.findClass "[I" = some comp := hcomp
  cases h2.symm.trans e1
  cases g2.symm.trans e2
  exact Or.inr ⟨ca, cb, k1, kb, kb, _, _, b, h1, hk, hkind, g3, rfl, g1, g4, g3, Vm.assignable_self ..⟩
theorem own_newPE (Y : own_S p l e R s m args below meth c n0 T h k n) (hx : p.tables.exec = Jvm.exec) (hZ : Z.Warmed39 s.vm) (w : (Jvm.Cond.arrayClass .int).before a0 Z = true) {g : JFrame} (hg : g.method = m) (hd : decode c.code g.pc = .ok (.newarray .int, 2)) {z : Int32} {rest : List Value} (hs : g.stack = .int z :: rest)
    (hz : ¬ z < 0) {nz cap : Nat} (hn : z.toNatClampNeg = nz) (hcap : nz ≤ cap) (hb : cap * 8 ≤ 536870912) (hc : k + 1 ≤ R.cells) (hl : n + cap ≤ R.slots)
    (K : ∀ T' h' b, b = h.size → own_S p l e R s m args below meth c n0 T' h' (k + 1) (n + cap) → Ext h h' → own_A Z h' b .int (List.replicate nz (.int 0)) → Exa Z h' b "[I" → own_Ends p.tables e below P (T'.setTop { g with pc := g.pc + 2, stack := .ref b :: rest })) : own_Ends p.tables e below P (T.setTop g) := by
  obtain ⟨locs, X, e1, N⟩ := Y
  have had : "[" ++ (newarray.typeOf .int).toString = "[I" := by decide +kernel
  have w' : (Jvm.Cond.arrayClass (newarray.typeOf .int)).before a0 Z = true := w
  obtain ⟨T', h', cA, X', e', E, A, B, st⟩ := newPE X hx hZ w' e1 hg hd hs hz (cap := cap) (by rw [hn]; exact hcap) hb hc hl had
  have A' : Arr Z h' h.size (newA cA .int z) .int := A
  have hA : own_A Z h' h.size .int (List.replicate nz (.int 0)) := ⟨_, A', by simp [newA, hn, defaultValue], by simp; omega⟩
  exact own_st st (K T' h' _ rfl ⟨locs, X', e', N⟩ E hA B)
theorem own_newRAE (Y : own_S p l e R s m args below meth c n0 T h k n) (hx : p.tables.exec = Jvm.exec) (hZ : Z.Warmed39 s.vm) {own : String} {index : Nat} (hown : s.vm.findClass own = some m.cls) (w1 : (Jvm.Cond.classLink own index "[I").before a0 Z = true) (w2 : (Jvm.Cond.arrayOver (.array .int)).before a0 Z = true) {g : JFrame} (hg : g.method = m) (hd : decode c.code g.pc = .ok (.anewarray index, 3)) {z : Int32} {rest : List Value} (hs : g.stack = .int z :: rest)
    (hz : ¬ z < 0) {nz cap : Nat} (hn : z.toNatClampNeg = nz) (hcap : nz ≤ cap) (hb : cap * 8 ≤ 536870912) (hc : k + 1 ≤ R.cells) (hl : n + cap ≤ R.slots)
    (K : ∀ T' h' b, b = h.size → own_S p l e R s m args below meth c n0 T' h' (k + 1) (n + cap) → Ext h h' → own_A Z h' b (.array .int) (List.replicate nz .null) → Exa Z h' b "[[I" → own_Ends p.tables e below P (T'.setTop { g with pc := g.pc + 3, stack := .ref b :: rest })) : own_Ends p.tables e below P (T.setTop g) := by
  obtain ⟨locs, X, e1, N⟩ := Y
  obtain ⟨T', h', cA, X', e', E, A, B, O, st⟩ := newRA X hx hZ hown (ty := .int) (C := "[I") rfl w1 w2 e1 hg hd hs hz (cap := cap) (by rw [hn]; exact hcap) hb hc hl (ad := "[[I") rfl
  refine own_st st (K T' h' _ rfl ⟨locs, X', e', N⟩ E ⟨_, A, ?_, ?_⟩ B)
  · simp [newA, hn, defaultValue]
  · simp; omega
theorem own_callNN (Y : own_S p l e R s m args below meth c n0 T h k n) (hx : p.tables.exec = Jvm.exec) (hZ : Z.Warmed39 s.vm) {own host : String} {index : Nat} {y : MethodName} {bytes : ByteArray} {maxL : Nat} (hy1 : y.name = "<init>") (hown : s.vm.findClass own = some m.cls) (wl : (Jvm.Cond.methodLinkNest own index y host).before a0 Z = true) (win : (Jvm.Cond.instanceMethod y).before a0 Z = true) (wi : (Jvm.Cond.initialized y.cls).before a0 Z = true) (wc : (Jvm.Cond.code y bytes maxL none).before a0 Z = true)
    (hy : y.cls ≠ "java/lang/invoke/MethodHandle" ∧ y.cls ≠ "java/lang/invoke/VarHandle") {rm : Room} {a : Addr} {argsL rest : List Value} {Qf : Option Value → Heap → Prop} (hM : own_Con l Z y bytes maxL none [] rm (.ref a :: argsL).toArray h n0 Qf) {W : Nat} (hfr : rm.frames + 1 ≤ R.frames) (hlo : W + (maxL + 11) + rm.locals ≤ R.locals) (hc : k + rm.cells ≤ R.cells) (hsl : n + rm.slots ≤ R.slots)
    {g : JFrame} (hg : g.method = m) (hsize : g.locals.size = c.maxLocals) (hlen : ∀ sig, parseMethodDescriptor y.desc = some sig → argsL.length = sig.parameters.length) (hs : g.stack = argsL.reverse ++ .ref a :: rest) (hW : 2 * g.monitorRoom + (rest.map fun v => v.category).sum ≤ W) (hd : decode c.code g.pc = .ok (.invokespecial index, 3))
    (K : ∀ T' h' v, own_S p l e R s m args below meth c n0 T' h' (k + rm.cells) (n + rm.slots) → Qf v h' → own_Ends p.tables e below P (T'.setTop { g with pc := g.pc + 3, stack := v.toList ++ rest })) : own_Ends p.tables e below P (T.setTop g) := by
  obtain ⟨locs, X, e1, N⟩ := Y
  obtain ⟨v, vm1, ⟨T', L', k', n'⟩, -, X', ⟨L, hQ, l1, y1, z1⟩, st⟩ := X.specialBackNest hx hy1 hown (Cond.methodLinkNest_wide hZ wl) (mvT hZ win) (mvT hZ wc) hy (backOf (W := W) (Q := fun v h L => Fr n0 L ∧ Qf v h) hM hZ wc wi hfr hlo) hg hsize (Steps.refl _) hlen hs hW hd (fun _ _ => ⟨rfl, e1, hc, hsl⟩)
  dsimp only [Pt.U, Pt.locs, Pt.cells, Pt.slots] at X' l1 y1 z1 st hQ
  subst l1 y1 z1
  exact own_st (fun t q => st.trans q) (K T' _ v ⟨_, X', rfl, Fr.app N hQ.1⟩ hQ.2)
theorem own_arv {a : Addr} {xs : List Int32} (A : own_A Z h a .int (xs.map Value.int)) : ∃ kc, Arv Z h a kc .int (xs.length.toInt32) (xs.map Value.int) (.int 0) := by
  obtain ⟨cl, A, q, r⟩ := A
  have hs : cl.slots.size = xs.length := by rw [own_sz q]; simp
  have hr : xs.length < 2 ^ 31 := by simpa using r
  have hn : (xs.length.toInt32).toInt = (xs.length : Int) := len_toInt hr
  obtain ⟨q0, q1⟩ := own_nat hn
  refine ⟨cl.cls, cl, A, rfl, by rw [q1, hs], q0, fun i hi => ?_, fun i hi => ?_⟩
  · rw [← Array.getElem?_toList, q]
    have : i < xs.length := by omega
    simp [this]
  · have : i < xs.length := by omega
    simp [this, fits]
theorem own_unarv {a : Addr} {xs : List Int32} {kc : ClassId} {z : Int32} (hz : z.toNatClampNeg = xs.length) (hl : xs.length < 2 ^ 31) (A : Arv Z h a kc .int z (xs.map Value.int) (.int 0)) : own_A Z h a .int (xs.map Value.int) := by
  obtain ⟨cl, A, -, s1, -, H, -⟩ := A
  refine ⟨cl, A, ?_, by simpa using hl⟩
  apply List.ext_getElem?
  intro i
  by_cases hi : i < cl.slots.size
  · rw [Array.getElem?_toList, H i hi]
    have : i < xs.length := by rw [← hz, ← s1]; exact hi
    simp [this]
  · have h1 : cl.slots.toList[i]? = none := by simp; omega
    have h2 : (xs.map Value.int)[i]? = none := by simp; rw [← hz, ← s1]; omega
    rw [h1, h2]
theorem own_copy (Y : own_S p l e R s m args below meth c n0 T h k n) (hx : p.tables.exec = Jvm.exec) (hZ : Z.Warmed39 s.vm) {own : String} {index : Nat} (hown : s.vm.findClass own = some m.cls)
    (w1 : (Jvm.Cond.methodLink own index Jvm.Stand.acN).before a0 Z = true) (w2 : (Jvm.Cond.native Jvm.Stand.acN).before a0 Z = true) (w3 : (Jvm.Cond.static Jvm.Stand.acN).before a0 Z = true) (w4 : (Jvm.Cond.initialized "java/lang/System").before a0 Z = true)
    {a b : Addr} {xs ys zs : List Int32} (A : own_A Z h a .int (xs.map Value.int)) (B : own_A Z h b .int (ys.map Value.int)) {sp dp nn : Int32} {sN dN nN : Nat} (h1 : sp.toInt = (sN : Int)) (h2 : dp.toInt = (dN : Int)) (h3 : nn.toInt = (nN : Int)) (h4 : sN + nN ≤ xs.length) (h5 : dN + nN ≤ ys.length) (hzs : ys.take dN ++ (List.range nN).map (fun i => own_g xs (sN + i)) ++ ys.drop (dN + nN) = zs) (hzl : zs.length = ys.length) (ge : n0 ≤ b)
    {g : JFrame} (hg : g.method = m) (hsize : g.locals.size = c.maxLocals) {rest : List Value} (hs : g.stack = .int nn :: .int dp :: .ref b :: .int sp :: .ref a :: rest) (hd : decode c.code g.pc = .ok (.invokestatic index, 3))
    (hf : 1 ≤ R.frames) {W : Nat} (hW : 2 * g.monitorRoom + (rest.map fun v => v.category).sum ≤ W) (hlo : W + (nativeFrameWords "java/lang/System" "arraycopy" 5 + 11) ≤ R.locals)
    (K : ∀ T' h', own_S p l e R s m args below meth c n0 T' h' k n → Keep h h' [b] → own_A Z h' b .int (zs.map Value.int) → own_Ends p.tables e below P (T'.setTop { g with pc := g.pc + 3, stack := rest })) : own_Ends p.tables e below P (T.setTop g) := by
  obtain ⟨locs, X, e1, N⟩ := Y
  have la : xs.length < 2 ^ 31 := by obtain ⟨_, _, _, r⟩ := A; simpa using r
  have lb : ys.length < 2 ^ 31 := by obtain ⟨_, _, _, r⟩ := B; simpa using r
  obtain ⟨ka, A⟩ := own_arv A
  obtain ⟨kb, B⟩ := own_arv B
  obtain ⟨s0, s1⟩ := own_nat h1
  obtain ⟨d0, d1⟩ := own_nat h2
  obtain ⟨t0, t1⟩ := own_nat h3
  obtain ⟨-, xl⟩ := own_nat (len_toInt la)
  obtain ⟨-, yl⟩ := own_nat (len_toInt lb)
  obtain ⟨T', h', L, X', e', N', Kp, B', st⟩ := cpA X hx hZ hown w1 w2 w3 w4 e1 A B (Or.inl ⟨rfl, rfl⟩) s0 d0 t0 (by rw [s1, t1, xl]; exact h4) (by rw [d1, t1, yl]; exact h5) rfl (by rw [d1, t1]; simpa using h5) N ge hg hsize hs hd hf hW hlo
  refine own_st st (K T' h' ⟨_, X', e', N'⟩ Kp (own_unarv (kc := kb) (z := ys.length.toInt32) (by rw [yl, hzl]) (by rw [hzl]; exact lb) ?_))
  have q : (zs.map Value.int) = (ys.map Value.int).take dp.toNatClampNeg ++ (List.range nn.toNatClampNeg).map (fun i => (xs.map Value.int).getD (sp.toNatClampNeg + i) (.int 0)) ++ (ys.map Value.int).drop (dp.toNatClampNeg + nn.toNatClampNeg) := by
    rw [← hzs, d1, t1, s1]
    simp only [List.map_append, List.map_take, List.map_drop, List.map_map]
    congr 2
    apply List.map_congr_left
    intro i hi
    have hi' := List.mem_range.mp hi
    have : sN + i < xs.length := by omega
    simp [own_g, this]
  rw [q]; exact B'
end OwnGraph
section OwnShort2
variable {p : Program} {l : Launch} {e : Env} {R : Room} {s : State} {m : MethodId} {args : Array Value} {below : List Frame} {meth : Method} {c : Code} {n0 : Nat} {T : State} {h : Heap} {k n : Nat} {Z : State} {a0 : Array Value} {P : Outcome → State → Prop} {bs : ByteArray} {pc pc' : Nat} {L l' : Array Slot} {S rest : List Value}
theorem p_getF (Y : own_S p l e R s m args below meth c n0 T h k n) (hx : p.tables.exec = Jvm.exec) (hZ : Z.Warmed39 s.vm) {own R0 O f d host : String} {index : Nat} (hown : s.vm.findClass own = some m.cls) (w : (Jvm.Cond.fieldLink own index R0 f d).before a0 Z = true ∨ (Jvm.Cond.fieldLinkNest own index R0 f d host).before a0 Z = true) (via : Via Z R0 O f d) {a : Addr} {v : Value} (F : Fld Z h a O f d v) {bs : ByteArray} (hby : c.code = bs) {pc : Nat} {lc : Array Slot} {sk : List Value} {rest : List Value} (hs : sk = .ref a :: rest) (hd : decode bs pc = .ok (.getfield index, 3)) (K : ∀ T', own_S p l e R s m args below meth c n0 T' h k n → own_Ends p.tables e below P (T'.setTop (mkF m (pc + 3) lc (v :: rest)))) : own_Ends p.tables e below P (T.setTop (mkF m pc lc sk)) := own_getF Y hx hZ hown w via F rfl hs (hb hby hd) K
theorem p_getFR (Y : own_S p l e R s m args below meth c n0 T h k n) (hx : p.tables.exec = Jvm.exec) (hZ : Z.Warmed39 s.vm) {own R0 O f d : String} {index : Nat} (hown : s.vm.findClass own = some m.cls) (w : (Jvm.Cond.fieldRef own index R0 f d).before a0 Z = true) (via : Via Z R0 O f d) {a : Addr} {v : Value} (F : Fld Z h a O f d v) {bs : ByteArray} (hby : c.code = bs) {pc : Nat} {lc : Array Slot} {sk : List Value} {rest : List Value} (hs : sk = .ref a :: rest) (hd : decode bs pc = .ok (.getfield index, 3)) (K : ∀ T', own_S p l e R s m args below meth c n0 T' h k n → own_Ends p.tables e below P (T'.setTop (mkF m (pc + 3) lc (v :: rest)))) : own_Ends p.tables e below P (T.setTop (mkF m pc lc sk)) := own_getFR Y hx hZ hown w via F rfl hs (hb hby hd) K
theorem p_putF (Y : own_S p l e R s m args below meth c n0 T h k n) (hx : p.tables.exec = Jvm.exec) (hZ : Z.Warmed39 s.vm) {own R0 O f d host C : String} {index kk : Nat} {ty : FieldType} (hown : s.vm.findClass own = some m.cls) (w : (Jvm.Cond.fieldLink own index R0 f d).before a0 Z = true ∨ (Jvm.Cond.fieldLinkNest own index R0 f d host).before a0 Z = true) (via : Via Z R0 O f d) {a : Addr} {v old : Value} (F : Fld Z h a O f d old) (E : Exa Z h a C) (L : (Jvm.Cond.lays C O f d).before a0 Z = true ∨ ((Jvm.Cond.laysFinal C O f d).before a0 Z = true ∧ own = O ∧ meth.name = "<init>")) (wi : (Jvm.Cond.instantiable C kk).before a0 Z = true) (ha : n0 ≤ a) (hty : parseFieldDescriptor d = some ty) (hn : narrow ty v = v) (hf : fits ty v = true) {bs : ByteArray} (hby : c.code = bs) {pc : Nat} {lc : Array Slot} {sk : List Value} {rest : List Value} (hs : sk = v :: .ref a :: rest) (hd : decode bs pc = .ok (.putfield index, 3)) (K : ∀ T' h', own_S p l e R s m args below meth c n0 T' h' k n → Wr h h' a (Jvm.RoadKit.slotOf Z O f d) v → Fld Z h' a O f d v → own_Ends p.tables e below P (T'.setTop (mkF m (pc + 3) lc (rest)))) : own_Ends p.tables e below P (T.setTop (mkF m pc lc sk)) := own_putF Y hx hZ hown w via F E L wi ha hty hn hf rfl hs (hb hby hd) K
theorem p_putFN (Y : own_S p l e R s m args below meth c n0 T h k n) (hx : p.tables.exec = Jvm.exec) (hZ : Z.Warmed39 s.vm) {own R0 O f d C : String} {index kk : Nat} {ty : FieldType} (hown : s.vm.findClass own = some m.cls) (w : (Jvm.Cond.fieldLink own index R0 f d).before a0 Z = true) (via : Via Z R0 O f d) {a : Addr} {v v' old : Value} (F : Fld Z h a O f d old) (E : Exa Z h a C) (L : (Jvm.Cond.lays C O f d).before a0 Z = true ∨ ((Jvm.Cond.laysFinal C O f d).before a0 Z = true ∧ own = O ∧ meth.name = "<init>")) (wi : (Jvm.Cond.instantiable C kk).before a0 Z = true) (ha : n0 ≤ a) (hty : parseFieldDescriptor d = some ty) (hn : narrow ty v = v') (hf : fits ty v' = true) {bs : ByteArray} (hby : c.code = bs) {pc : Nat} {lc : Array Slot} {sk : List Value} {rest : List Value} (hs : sk = v :: .ref a :: rest) (hd : decode bs pc = .ok (.putfield index, 3)) (K : ∀ T' h', own_S p l e R s m args below meth c n0 T' h' k n → Wr h h' a (Jvm.RoadKit.slotOf Z O f d) v' → Fld Z h' a O f d v' → own_Ends p.tables e below P (T'.setTop (mkF m (pc + 3) lc (rest)))) : own_Ends p.tables e below P (T.setTop (mkF m pc lc sk)) := own_putFN Y hx hZ hown w via F E L wi ha hty hn hf rfl hs (hb hby hd) K
theorem p_len (Y : own_S p l e R s m args below meth c n0 T h k n) (hx : p.tables.exec = Jvm.exec) (hZ : Z.Warmed39 s.vm) {a : Addr} {ty : FieldType} {vs : List Value} (A : own_A Z h a ty vs) {z : Int32} (hz : vs.length.toInt32 = z) {bs : ByteArray} (hby : c.code = bs) {pc : Nat} {lc : Array Slot} {sk : List Value} {rest : List Value} (hs : sk = .ref a :: rest) (hd : decode bs pc = .ok (.arraylength, 1)) (K : own_Ends p.tables e below P (T.setTop (mkF m (pc + 1) lc (.int z :: rest)))) : own_Ends p.tables e below P (T.setTop (mkF m pc lc sk)) := own_len Y hx hZ A hz rfl hs (hb hby hd) K
theorem p_ldI (Y : own_S p l e R s m args below meth c n0 T h k n) (hx : p.tables.exec = Jvm.exec) (hZ : Z.Warmed39 s.vm) {a : Addr} {vs : List Value} (A : own_A Z h a .int vs) {j : Int32} {i : Nat} (hj : ¬ j < 0) (hi : j.toNatClampNeg = i) (hl : i < vs.length) {v : Value} (hv : vs[i]? = some v) {bs : ByteArray} (hby : c.code = bs) {pc : Nat} {lc : Array Slot} {sk : List Value} {rest : List Value} (hs : sk = .int j :: .ref a :: rest) (hd : decode bs pc = .ok (.iaload, 1)) (K : own_Ends p.tables e below P (T.setTop (mkF m (pc + 1) lc (v :: rest)))) : own_Ends p.tables e below P (T.setTop (mkF m pc lc sk)) := own_ldI Y hx hZ A hj hi hl hv rfl hs (hb hby hd) K
theorem p_ldJ (Y : own_S p l e R s m args below meth c n0 T h k n) (hx : p.tables.exec = Jvm.exec) (hZ : Z.Warmed39 s.vm) {a : Addr} {vs : List Value} (A : own_A Z h a .long vs) {j : Int32} {i : Nat} (hj : ¬ j < 0) (hi : j.toNatClampNeg = i) (hl : i < vs.length) {v : Value} (hv : vs[i]? = some v) {bs : ByteArray} (hby : c.code = bs) {pc : Nat} {lc : Array Slot} {sk : List Value} {rest : List Value} (hs : sk = .int j :: .ref a :: rest) (hd : decode bs pc = .ok (.laload, 1)) (K : own_Ends p.tables e below P (T.setTop (mkF m (pc + 1) lc (v :: rest)))) : own_Ends p.tables e below P (T.setTop (mkF m pc lc sk)) := own_ldJ Y hx hZ A hj hi hl hv rfl hs (hb hby hd) K
theorem p_ldR (Y : own_S p l e R s m args below meth c n0 T h k n) (hx : p.tables.exec = Jvm.exec) (hZ : Z.Warmed39 s.vm) {a : Addr} {vs : List Value} {ty : FieldType} (A : own_A Z h a ty vs) (hty : ty.isReference = true) {j : Int32} {i : Nat} (hj : ¬ j < 0) (hi : j.toNatClampNeg = i) (hl : i < vs.length) {v : Value} (hv : vs[i]? = some v) {bs : ByteArray} (hby : c.code = bs) {pc : Nat} {lc : Array Slot} {sk : List Value} {rest : List Value} (hs : sk = .int j :: .ref a :: rest) (hd : decode bs pc = .ok (.aaload, 1)) (K : own_Ends p.tables e below P (T.setTop (mkF m (pc + 1) lc (v :: rest)))) : own_Ends p.tables e below P (T.setTop (mkF m pc lc sk)) := own_ldR Y hx hZ A hty hj hi hl hv rfl hs (hb hby hd) K
theorem p_stI (Y : own_S p l e R s m args below meth c n0 T h k n) (hx : p.tables.exec = Jvm.exec) (hZ : Z.Warmed39 s.vm) {a : Addr} {vs : List Value} (A : own_A Z h a .int vs) (ha : n0 ≤ a) {j x : Int32} {i : Nat} (hj : ¬ j < 0) (hi : j.toNatClampNeg = i) (hl : i < vs.length) {bs : ByteArray} (hby : c.code = bs) {pc : Nat} {lc : Array Slot} {sk : List Value} {rest : List Value} (hs : sk = .int x :: .int j :: .ref a :: rest) (hd : decode bs pc = .ok (.iastore, 1)) (K : ∀ T' h', own_S p l e R s m args below meth c n0 T' h' k n → Wr h h' a i (.int x) → own_A Z h' a .int (vs.set i (.int x)) → own_Ends p.tables e below P (T'.setTop (mkF m (pc + 1) lc (rest)))) : own_Ends p.tables e below P (T.setTop (mkF m pc lc sk)) := own_stI Y hx hZ A ha hj hi hl rfl hs (hb hby hd) K
theorem p_stJ (Y : own_S p l e R s m args below meth c n0 T h k n) (hx : p.tables.exec = Jvm.exec) (hZ : Z.Warmed39 s.vm) {a : Addr} {vs : List Value} (A : own_A Z h a .long vs) (ha : n0 ≤ a) {j : Int32} {x : Int64} {i : Nat} (hj : ¬ j < 0) (hi : j.toNatClampNeg = i) (hl : i < vs.length) {bs : ByteArray} (hby : c.code = bs) {pc : Nat} {lc : Array Slot} {sk : List Value} {rest : List Value} (hs : sk = .long x :: .int j :: .ref a :: rest) (hd : decode bs pc = .ok (.lastore, 1)) (K : ∀ T' h', own_S p l e R s m args below meth c n0 T' h' k n → Wr h h' a i (.long x) → own_A Z h' a .long (vs.set i (.long x)) → own_Ends p.tables e below P (T'.setTop (mkF m (pc + 1) lc (rest)))) : own_Ends p.tables e below P (T.setTop (mkF m pc lc sk)) := own_stJ Y hx hZ A ha hj hi hl rfl hs (hb hby hd) K
theorem o_lloadN (Y : own_S p l e R s m args below meth c n0 T h k n) (hx : p.tables.exec = Jvm.exec) (hby : c.code = bs) {q : Fin 4} {v : Int64} (hd : decode bs pc = .ok (.lload_n q, 1)) (hl : L[q.val]? = some (.val (.long v))) (g : own_Ends p.tables e below P (T.setTop (mkF m (pc + 1) L (.long v :: S)))) : own_Ends p.tables e below P (T.setTop (mkF m pc L S)) := own_st (fun t_ => XS.lloadN (own_here Y) hx rfl (hb hby hd) hl) g
theorem o_lload (Y : own_S p l e R s m args below meth c n0 T h k n) (hx : p.tables.exec = Jvm.exec) (hby : c.code = bs) {q : Nat} {v : Int64} (hd : decode bs pc = .ok (.lload q, 2)) (hl : L[q]? = some (.val (.long v))) (g : own_Ends p.tables e below P (T.setTop (mkF m (pc + 2) L (.long v :: S)))) : own_Ends p.tables e below P (T.setTop (mkF m pc L S)) := own_st (fun t_ => XS.lload (own_here Y) hx rfl (hb hby hd) hl) g
theorem o_dup2 (Y : own_S p l e R s m args below meth c n0 T h k n) (hx : p.tables.exec = Jvm.exec) (hby : c.code = bs) {x y : Value} (hd : decode bs pc = .ok (.dup2, 1)) (hs : S = x :: y :: rest) (hc : x.category = 1) (hc' : y.category = 1) (g : own_Ends p.tables e below P (T.setTop (mkF m (pc + 1) L (x :: y :: x :: y :: rest)))) : own_Ends p.tables e below P (T.setTop (mkF m pc L S)) := own_st (fun t_ => XT.dup2 (own_here Y) hx rfl (hb hby hd) hs hc hc') g
theorem o_ifnonnullNo (Y : own_S p l e R s m args below meth c n0 T h k n) (hx : p.tables.exec = Jvm.exec) (hby : c.code = bs) {o : Int} (hd : decode bs pc = .ok (.ifnonnull o, 3)) (hs : S = .null :: rest) (g : own_Ends p.tables e below P (T.setTop (mkF m (pc + 3) L rest))) : own_Ends p.tables e below P (T.setTop (mkF m pc L S)) := own_st (fun t_ => XS.ifnonnullNo (own_here Y) hx rfl (hb hby hd) hs) g
theorem o_iadd (Y : own_S p l e R s m args below meth c n0 T h k n) (hx : p.tables.exec = Jvm.exec) (hby : c.code = bs) {x y z : Int32} (hd : decode bs pc = .ok (.iadd, 1)) (hs : S = .int y :: .int x :: rest) (he : x + y = z) (g : own_Ends p.tables e below P (T.setTop (mkF m (pc + 1) L (.int z :: rest)))) : own_Ends p.tables e below P (T.setTop (mkF m pc L S)) := by
  subst he; exact own_st (fun t_ => XS.iadd (own_here Y) hx rfl (hb hby hd) hs) g
theorem o_isub (Y : own_S p l e R s m args below meth c n0 T h k n) (hx : p.tables.exec = Jvm.exec) (hby : c.code = bs) {x y z : Int32} (hd : decode bs pc = .ok (.isub, 1)) (hs : S = .int y :: .int x :: rest) (he : x - y = z) (g : own_Ends p.tables e below P (T.setTop (mkF m (pc + 1) L (.int z :: rest)))) : own_Ends p.tables e below P (T.setTop (mkF m pc L S)) := by
  subst he; exact own_st (fun t_ => XS.isub (own_here Y) hx rfl (hb hby hd) hs) g
theorem o_iand (Y : own_S p l e R s m args below meth c n0 T h k n) (hx : p.tables.exec = Jvm.exec) (hby : c.code = bs) {x y z : Int32} (hd : decode bs pc = .ok (.iand, 1)) (hs : S = .int y :: .int x :: rest) (he : x &&& y = z) (g : own_Ends p.tables e below P (T.setTop (mkF m (pc + 1) L (.int z :: rest)))) : own_Ends p.tables e below P (T.setTop (mkF m pc L S)) := by
  subst he; exact own_st (fun t_ => XS.iand (own_here Y) hx rfl (hb hby hd) hs) g
theorem o_ladd (Y : own_S p l e R s m args below meth c n0 T h k n) (hx : p.tables.exec = Jvm.exec) (hby : c.code = bs) {x y z : Int64} (hd : decode bs pc = .ok (.ladd, 1)) (hs : S = .long y :: .long x :: rest) (he : x + y = z) (g : own_Ends p.tables e below P (T.setTop (mkF m (pc + 1) L (.long z :: rest)))) : own_Ends p.tables e below P (T.setTop (mkF m pc L S)) := by
  subst he; exact own_st (fun t_ => XS.ladd (own_here Y) hx rfl (hb hby hd) hs) g
theorem o_i2l (Y : own_S p l e R s m args below meth c n0 T h k n) (hx : p.tables.exec = Jvm.exec) (hby : c.code = bs) {x : Int32} {z : Int64} (hd : decode bs pc = .ok (.i2l, 1)) (hs : S = .int x :: rest) (he : x.toInt64 = z) (g : own_Ends p.tables e below P (T.setTop (mkF m (pc + 1) L (.long z :: rest)))) : own_Ends p.tables e below P (T.setTop (mkF m pc L S)) := by
  subst he; exact own_st (fun t_ => XS.i2l (own_here Y) hx rfl (hb hby hd) hs) g
theorem o_l2i (Y : own_S p l e R s m args below meth c n0 T h k n) (hx : p.tables.exec = Jvm.exec) (hby : c.code = bs) {x : Int64} {z : Int32} (hd : decode bs pc = .ok (.l2i, 1)) (hs : S = .long x :: rest) (he : x.toInt32 = z) (g : own_Ends p.tables e below P (T.setTop (mkF m (pc + 1) L (.int z :: rest)))) : own_Ends p.tables e below P (T.setTop (mkF m pc L S)) := by
  subst he; exact own_st (fun t_ => XS.l2i (own_here Y) hx rfl (hb hby hd) hs) g
end OwnShort2
theorem own_pn0 : plainName "kombos/graph/IdIndex" = true := by first | (simp [plainName, overriddenIn]; done) | decide +kernel
theorem own_f0 : parseFieldDescriptor "[J" = some (.array .long) := by decide
theorem own_f1 : parseFieldDescriptor "I" = some .int := by decide
theorem own_f2 : parseFieldDescriptor "J" = some .long := by decide
theorem own_f3 : parseFieldDescriptor "[I" = some (.array .int) := by decide
def bc5 : ByteArray := prog_47_method_1_code
theorem d5_0 : decode bc5 0 = .ok (.aload_n 0, 1) := by decide +kernel
theorem d5_1 : decode bc5 1 = .ok (.invokespecial 1, 3) := by decide +kernel
theorem d5_4 : decode bc5 4 = .ok (.aload_n 0, 1) := by decide +kernel
theorem d5_5 : decode bc5 5 = .ok (.iload_n 1, 1) := by decide +kernel
theorem d5_6 : decode bc5 6 = .ok (.putfield 7, 3) := by decide +kernel
theorem d5_9 : decode bc5 9 = .ok (.return_, 1) := by decide +kernel
theorem own_ef_own_rm5 (m : MethodId) (r0 : Addr) : entryFrame m #[(.ref r0), (.int 536870912)] 2 = mkF m 0 #[rv r0, iv 536870912] [] := by first | (simp [entryFrame, mkF, argsToLocals, Value.category]; done) | rfl
def own_Q_own_rm5 (Z : State) (r0 : Addr) (h0 : Heap) (n0 : Nat) (v : Option Value) (h : Heap) : Prop := v = none ∧ Keep h0 h [r0] ∧ Exa Z h r0 "kombos/graph/IdIndex" ∧ Fld Z h r0 "kombos/graph/IdIndex" "maxSize" "I" (.int 536870912) ∧ Fld Z h r0 "kombos/graph/IdIndex" "ids" "[J" .null ∧ Fld Z h r0 "kombos/graph/IdIndex" "first" "J" (.long 0) ∧ Fld Z h r0 "kombos/graph/IdIndex" "direct" "[I" .null ∧ Fld Z h r0 "kombos/graph/IdIndex" "slots" "[I" .null ∧ Fld Z h r0 "kombos/graph/IdIndex" "size" "I" (.int 0)
set_option maxRecDepth 65536 in
set_option maxHeartbeats 40000000 in
theorem own_rm5 (l : Launch) (Z : State) (a0 : Array Value) (hw : ∀ d ∈ tables_1, d.before a0 Z = true) (ws : List Jvm.Cond) (r0 : Addr)  (h0 : Heap) (n0 : Nat)  (Ex : Exa Z h0 r0 "kombos/graph/IdIndex") (Fx_maxSize : Fld Z h0 r0 "kombos/graph/IdIndex" "maxSize" "I" (.int 0)) (Fx_ids : Fld Z h0 r0 "kombos/graph/IdIndex" "ids" "[J" .null) (Fx_first : Fld Z h0 r0 "kombos/graph/IdIndex" "first" "J" (.long 0)) (Fx_direct : Fld Z h0 r0 "kombos/graph/IdIndex" "direct" "[I" .null) (Fx_slots : Fld Z h0 r0 "kombos/graph/IdIndex" "slots" "[I" .null) (Fx_size : Fld Z h0 r0 "kombos/graph/IdIndex" "size" "I" (.int 0)) (g : n0 ≤ r0) :
    own_Con l Z (⟨"kombos/graph/IdIndex", "<init>", "(I)V"⟩ : MethodName) prog_47_method_1_code 2 none ws ({ frames := 1, cells := 0, slots := 0, locals := 12 } : Room) #[(.ref r0), (.int 536870912)] h0 n0 (own_Q_own_rm5 Z r0 h0 n0) := by
  refine own_body (plainFor_of_name own_pn0) ?_
  intro p e s m below meth c T0 hx hZ hby hml hown hnm hret hlk Y0
  replace hown : s.vm.findClass "kombos/graph/IdIndex" = some m.cls := hown
  replace hnm : meth.name = "<init>" := hnm
  rw [own_ef_own_rm5 m r0]
  show own_Ends _ _ _ _ (T0.setTop (mkF m 0 #[rv r0, iv 536870912] []))
  refine o_aloadN Y0 hx hby d5_0 rfl rfl ?_
  refine own_initO Y0 hx hZ hown (own_w hw 40 rfl) (own_w hw 12 rfl) (own_w hw 13 rfl) rfl (by rw [hml]; rfl) rfl (hb hby d5_1) (by decide) (W := 0) (by show 2 * 0 + _ ≤ _; exact Nat.le_of_eq rfl) (by decide) (fun T1 Y2 => ?_)
  show own_Ends _ _ _ _ (T1.setTop (mkF m 4 #[rv r0, iv 536870912] []))
  refine o_aloadN Y2 hx hby d5_4 rfl rfl ?_
  refine o_iloadN Y2 hx hby d5_5 rfl ?_
  refine p_putF Y2 hx hZ hown (host := "") (Or.inl (own_w hw 41 rfl)) Via.refl Fx_maxSize Ex (Or.inr ⟨(own_w hw 42 rfl), rfl, hnm⟩) (own_w hw 35 rfl) g (ty := .int) (by decide) rfl rfl hby rfl d5_6 (fun T3 h5 Y4 W6 F7 => ?_)
  have K8 : Keep h0 h5 [r0] := (Keep.refl h0 [r0]).wr W6 (Or.inl (List.mem_of_getElem? (i := 0) rfl))
  have f9 := Ex.wr W6
  have f10 := own_sn Fx_ids W6 (own_wl hw 81 rfl) (own_wf hw 42 rfl) (by decide) own_f0 own_f1
  have f11 := own_sn Fx_first W6 (own_wl hw 73 rfl) (own_wf hw 42 rfl) (by decide) own_f2 own_f1
  have f12 := own_sn Fx_direct W6 (own_wl hw 69 rfl) (own_wf hw 42 rfl) (by decide) own_f3 own_f1
  have f13 := own_sn Fx_slots W6 (own_wl hw 71 rfl) (own_wf hw 42 rfl) (by decide) own_f3 own_f1
  have f14 := own_sn Fx_size W6 (own_wl hw 75 rfl) (own_wf hw 42 rfl) (by decide) own_f1 own_f1
  refine own_retV Y4 hx hlk hret (hb hby d5_9) (by decide) (by decide) ?_
  exact ⟨rfl, K8, f9, F7, f10, f11, f12, f13, f14⟩
def bc9 : ByteArray := prog_47_method_4_code
theorem d9_0 : decode bc9 0 = .ok (.aload_n 0, 1) := by decide +kernel
theorem d9_1 : decode bc9 1 = .ok (.getfield 24, 3) := by decide +kernel
theorem d9_4 : decode bc9 4 = .ok (.ifnull 34, 3) := by decide +kernel
theorem d9_38 : decode bc9 38 = .ok (.aload_n 0, 1) := by decide +kernel
theorem d9_39 : decode bc9 39 = .ok (.getfield 28, 3) := by decide +kernel
theorem d9_42 : decode bc9 42 = .ok (.ifnull 22, 3) := by decide +kernel
theorem d9_64 : decode bc9 64 = .ok (.lload_n 1, 1) := by decide +kernel
theorem d9_65 : decode bc9 65 = .ok (.aload_n 0, 1) := by decide +kernel
theorem d9_66 : decode bc9 66 = .ok (.getfield 20, 3) := by decide +kernel
theorem d9_69 : decode bc9 69 = .ok (.lsub, 1) := by decide +kernel
theorem d9_70 : decode bc9 70 = .ok (.lstore_n 3, 1) := by decide +kernel
theorem d9_71 : decode bc9 71 = .ok (.lload_n 3, 1) := by decide +kernel
theorem d9_72 : decode bc9 72 = .ok (.lconst 0, 1) := by decide +kernel
theorem d9_73 : decode bc9 73 = .ok (.lcmp, 1) := by decide +kernel
theorem d9_74 : decode bc9 74 = .ok (.ifCond .lt 18, 3) := by decide +kernel
theorem d9_77 : decode bc9 77 = .ok (.lload_n 3, 1) := by decide +kernel
theorem d9_78 : decode bc9 78 = .ok (.aload_n 0, 1) := by decide +kernel
theorem d9_79 : decode bc9 79 = .ok (.getfield 13, 3) := by decide +kernel
theorem d9_82 : decode bc9 82 = .ok (.i2l, 1) := by decide +kernel
theorem d9_83 : decode bc9 83 = .ok (.lcmp, 1) := by decide +kernel
theorem d9_84 : decode bc9 84 = .ok (.ifCond .ge 8, 3) := by decide +kernel
theorem d9_92 : decode bc9 92 = .ok (.iconst (-1), 1) := by decide +kernel
theorem d9_93 : decode bc9 93 = .ok (.ireturn, 1) := by decide +kernel
theorem own_ef_own_rm9_0 (m : MethodId) (r0 : Addr) : entryFrame m #[(.ref r0), (.long 0)] 5 = mkF m 0 #[rv r0, .val (.long 0), .second, .unset, .unset] [] := by first | (simp [entryFrame, mkF, argsToLocals, Value.category]; done) | rfl
def own_Q_own_rm9_0 (Z : State)  (h0 : Heap) (n0 : Nat) (v : Option Value) (h : Heap) : Prop := v = some (.int (-1)) ∧ h0 = h
set_option maxRecDepth 65536 in
set_option maxHeartbeats 40000000 in
theorem own_rm9_0 (l : Launch) (Z : State) (a0 : Array Value) (hw : ∀ d ∈ tables_1, d.before a0 Z = true) (ws : List Jvm.Cond) (r0 : Addr)  (h0 : Heap) (n0 : Nat)  (Ex : Exa Z h0 r0 "kombos/graph/IdIndex") (Fx_maxSize : Fld Z h0 r0 "kombos/graph/IdIndex" "maxSize" "I" (.int 536870912)) (Fx_ids : Fld Z h0 r0 "kombos/graph/IdIndex" "ids" "[J" .null) (Fx_first : Fld Z h0 r0 "kombos/graph/IdIndex" "first" "J" (.long 0)) (Fx_direct : Fld Z h0 r0 "kombos/graph/IdIndex" "direct" "[I" .null) (Fx_slots : Fld Z h0 r0 "kombos/graph/IdIndex" "slots" "[I" .null) (Fx_size : Fld Z h0 r0 "kombos/graph/IdIndex" "size" "I" (.int 0)) :
    own_Con l Z (⟨"kombos/graph/IdIndex", "indexOf", "(J)I"⟩ : MethodName) prog_47_method_4_code 5 (some .int) ws ({ frames := 0, cells := 0, slots := 0, locals := 0 } : Room) #[(.ref r0), (.long 0)] h0 n0 (own_Q_own_rm9_0 Z  h0 n0) := by
  refine own_body (plainFor_of_name own_pn0) ?_
  intro p e s m below meth c T0 hx hZ hby hml hown hnm hret hlk Y0
  replace hown : s.vm.findClass "kombos/graph/IdIndex" = some m.cls := hown
  replace hnm : meth.name = "indexOf" := hnm
  rw [own_ef_own_rm9_0 m r0]
  show own_Ends _ _ _ _ (T0.setTop (mkF m 0 #[rv r0, .val (.long 0), .second, .unset, .unset] []))
  refine o_aloadN Y0 hx hby d9_0 rfl rfl ?_
  refine p_getF Y0 hx hZ hown (host := "") (Or.inl (own_w hw 68 rfl)) Via.refl Fx_direct hby rfl d9_1 (fun T15 Y16 => ?_)
  refine o_ifnullYes Y16 hx hby (pc' := 38) d9_4 rfl (by decide) (by decide) ?_
  refine o_aloadN Y16 hx hby d9_38 rfl rfl ?_
  refine p_getF Y16 hx hZ hown (host := "") (Or.inl (own_w hw 70 rfl)) Via.refl Fx_slots hby rfl d9_39 (fun T17 Y18 => ?_)
  refine o_ifnullYes Y18 hx hby (pc' := 64) d9_42 rfl (by decide) (by decide) ?_
  refine o_lloadN Y18 hx hby d9_64 rfl ?_
  refine o_aloadN Y18 hx hby d9_65 rfl rfl ?_
  refine p_getF Y18 hx hZ hown (host := "") (Or.inl (own_w hw 72 rfl)) Via.refl Fx_first hby rfl d9_66 (fun T19 Y20 => ?_)
  refine own_st (fun t_ => XS.lsub (own_here Y20) hx rfl (hb hby d9_69) rfl) ?_
  show own_Ends _ _ _ _ (T19.setTop (mkF m 70 #[rv r0, .val (.long 0), .second, .unset, .unset] [(.long 0)]))
  refine own_st (fun t_ => XS.lstoreN (own_here Y20) hx rfl (hb hby d9_70) rfl (l' := #[rv r0, .val (.long 0), .second, .val (.long 0), .second]) rfl) ?_
  show own_Ends _ _ _ _ (T19.setTop (mkF m 71 #[rv r0, .val (.long 0), .second, .val (.long 0), .second] []))
  refine o_lloadN Y20 hx hby d9_71 rfl ?_
  refine own_st (fun t_ => XS.lconst (own_here Y20) hx rfl (hb hby d9_72) ) ?_
  show own_Ends _ _ _ _ (T19.setTop (mkF m 73 #[rv r0, .val (.long 0), .second, .val (.long 0), .second] [(.long 0), (.long 0)]))
  refine own_st (fun t_ => XS.lcmp (own_here Y20) hx rfl (hb hby d9_73) rfl) ?_
  show own_Ends _ _ _ _ (T19.setTop (mkF m 74 #[rv r0, .val (.long 0), .second, .val (.long 0), .second] [(.int (lcmpW (0 : Int64) (0 : Int64)))]))
  refine o_ifNo Y20 hx hby d9_74 rfl (XT.ll_lt_f (by decide)) ?_
  refine o_lloadN Y20 hx hby d9_77 rfl ?_
  refine o_aloadN Y20 hx hby d9_78 rfl rfl ?_
  refine p_getF Y20 hx hZ hown (host := "") (Or.inl (own_w hw 74 rfl)) Via.refl Fx_size hby rfl d9_79 (fun T21 Y22 => ?_)
  refine o_i2l Y22 hx hby d9_82 rfl (z := 0) rfl ?_
  refine own_st (fun t_ => XS.lcmp (own_here Y22) hx rfl (hb hby d9_83) rfl) ?_
  show own_Ends _ _ _ _ (T21.setTop (mkF m 84 #[rv r0, .val (.long 0), .second, .val (.long 0), .second] [(.int (lcmpW (0 : Int64) (0 : Int64)))]))
  refine o_ifYes Y22 hx hby (pc' := 92) d9_84 rfl (XT.ll_ge_t (by decide)) (by decide) (by decide) ?_
  refine o_iconst Y22 hx hby d9_92 (x := (-1)) rfl ?_
  refine own_retI Y22 hx hlk hret (hb hby d9_93) (by decide) (by decide) ?_
  exact ⟨rfl, rfl⟩
theorem own_ef_own_rm9_1 (m : MethodId) (r0 : Addr) : entryFrame m #[(.ref r0), (.long 1)] 5 = mkF m 0 #[rv r0, .val (.long 1), .second, .unset, .unset] [] := by first | (simp [entryFrame, mkF, argsToLocals, Value.category]; done) | rfl
def own_Q_own_rm9_1 (Z : State)  (h0 : Heap) (n0 : Nat) (v : Option Value) (h : Heap) : Prop := v = some (.int (-1)) ∧ h0 = h
set_option maxRecDepth 65536 in
set_option maxHeartbeats 40000000 in
theorem own_rm9_1 (l : Launch) (Z : State) (a0 : Array Value) (hw : ∀ d ∈ tables_1, d.before a0 Z = true) (ws : List Jvm.Cond) (r0 : Addr)  (h0 : Heap) (n0 : Nat)  (Ex : Exa Z h0 r0 "kombos/graph/IdIndex") (Fx_maxSize : Fld Z h0 r0 "kombos/graph/IdIndex" "maxSize" "I" (.int 536870912)) (Fx_ids : Fld Z h0 r0 "kombos/graph/IdIndex" "ids" "[J" .null) (Fx_first : Fld Z h0 r0 "kombos/graph/IdIndex" "first" "J" (.long 0)) (Fx_direct : Fld Z h0 r0 "kombos/graph/IdIndex" "direct" "[I" .null) (Fx_slots : Fld Z h0 r0 "kombos/graph/IdIndex" "slots" "[I" .null) (Fx_size : Fld Z h0 r0 "kombos/graph/IdIndex" "size" "I" (.int 1)) :
    own_Con l Z (⟨"kombos/graph/IdIndex", "indexOf", "(J)I"⟩ : MethodName) prog_47_method_4_code 5 (some .int) ws ({ frames := 0, cells := 0, slots := 0, locals := 0 } : Room) #[(.ref r0), (.long 1)] h0 n0 (own_Q_own_rm9_1 Z  h0 n0) := by
  refine own_body (plainFor_of_name own_pn0) ?_
  intro p e s m below meth c T0 hx hZ hby hml hown hnm hret hlk Y0
  replace hown : s.vm.findClass "kombos/graph/IdIndex" = some m.cls := hown
  replace hnm : meth.name = "indexOf" := hnm
  rw [own_ef_own_rm9_1 m r0]
  show own_Ends _ _ _ _ (T0.setTop (mkF m 0 #[rv r0, .val (.long 1), .second, .unset, .unset] []))
  refine o_aloadN Y0 hx hby d9_0 rfl rfl ?_
  refine p_getF Y0 hx hZ hown (host := "") (Or.inl (own_w hw 68 rfl)) Via.refl Fx_direct hby rfl d9_1 (fun T23 Y24 => ?_)
  refine o_ifnullYes Y24 hx hby (pc' := 38) d9_4 rfl (by decide) (by decide) ?_
  refine o_aloadN Y24 hx hby d9_38 rfl rfl ?_
  refine p_getF Y24 hx hZ hown (host := "") (Or.inl (own_w hw 70 rfl)) Via.refl Fx_slots hby rfl d9_39 (fun T25 Y26 => ?_)
  refine o_ifnullYes Y26 hx hby (pc' := 64) d9_42 rfl (by decide) (by decide) ?_
  refine o_lloadN Y26 hx hby d9_64 rfl ?_
  refine o_aloadN Y26 hx hby d9_65 rfl rfl ?_
  refine p_getF Y26 hx hZ hown (host := "") (Or.inl (own_w hw 72 rfl)) Via.refl Fx_first hby rfl d9_66 (fun T27 Y28 => ?_)
  refine own_st (fun t_ => XS.lsub (own_here Y28) hx rfl (hb hby d9_69) rfl) ?_
  show own_Ends _ _ _ _ (T27.setTop (mkF m 70 #[rv r0, .val (.long 1), .second, .unset, .unset] [(.long 1)]))
  refine own_st (fun t_ => XS.lstoreN (own_here Y28) hx rfl (hb hby d9_70) rfl (l' := #[rv r0, .val (.long 1), .second, .val (.long 1), .second]) rfl) ?_
  show own_Ends _ _ _ _ (T27.setTop (mkF m 71 #[rv r0, .val (.long 1), .second, .val (.long 1), .second] []))
  refine o_lloadN Y28 hx hby d9_71 rfl ?_
  refine own_st (fun t_ => XS.lconst (own_here Y28) hx rfl (hb hby d9_72) ) ?_
  show own_Ends _ _ _ _ (T27.setTop (mkF m 73 #[rv r0, .val (.long 1), .second, .val (.long 1), .second] [(.long 0), (.long 1)]))
  refine own_st (fun t_ => XS.lcmp (own_here Y28) hx rfl (hb hby d9_73) rfl) ?_
  show own_Ends _ _ _ _ (T27.setTop (mkF m 74 #[rv r0, .val (.long 1), .second, .val (.long 1), .second] [(.int (lcmpW (1 : Int64) (0 : Int64)))]))
  refine o_ifNo Y28 hx hby d9_74 rfl (XT.ll_lt_f (by decide)) ?_
  refine o_lloadN Y28 hx hby d9_77 rfl ?_
  refine o_aloadN Y28 hx hby d9_78 rfl rfl ?_
  refine p_getF Y28 hx hZ hown (host := "") (Or.inl (own_w hw 74 rfl)) Via.refl Fx_size hby rfl d9_79 (fun T29 Y30 => ?_)
  refine o_i2l Y30 hx hby d9_82 rfl (z := 1) rfl ?_
  refine own_st (fun t_ => XS.lcmp (own_here Y30) hx rfl (hb hby d9_83) rfl) ?_
  show own_Ends _ _ _ _ (T29.setTop (mkF m 84 #[rv r0, .val (.long 1), .second, .val (.long 1), .second] [(.int (lcmpW (1 : Int64) (1 : Int64)))]))
  refine o_ifYes Y30 hx hby (pc' := 92) d9_84 rfl (XT.ll_ge_t (by decide)) (by decide) (by decide) ?_
  refine o_iconst Y30 hx hby d9_92 (x := (-1)) rfl ?_
  refine own_retI Y30 hx hlk hret (hb hby d9_93) (by decide) (by decide) ?_
  exact ⟨rfl, rfl⟩
theorem own_ef_own_rm9_2 (m : MethodId) (r0 : Addr) : entryFrame m #[(.ref r0), (.long 2)] 5 = mkF m 0 #[rv r0, .val (.long 2), .second, .unset, .unset] [] := by first | (simp [entryFrame, mkF, argsToLocals, Value.category]; done) | rfl
def own_Q_own_rm9_2 (Z : State)  (h0 : Heap) (n0 : Nat) (v : Option Value) (h : Heap) : Prop := v = some (.int (-1)) ∧ h0 = h
set_option maxRecDepth 65536 in
set_option maxHeartbeats 40000000 in
theorem own_rm9_2 (l : Launch) (Z : State) (a0 : Array Value) (hw : ∀ d ∈ tables_1, d.before a0 Z = true) (ws : List Jvm.Cond) (r0 : Addr)  (h0 : Heap) (n0 : Nat)  (Ex : Exa Z h0 r0 "kombos/graph/IdIndex") (Fx_maxSize : Fld Z h0 r0 "kombos/graph/IdIndex" "maxSize" "I" (.int 536870912)) (Fx_ids : Fld Z h0 r0 "kombos/graph/IdIndex" "ids" "[J" .null) (Fx_first : Fld Z h0 r0 "kombos/graph/IdIndex" "first" "J" (.long 0)) (Fx_direct : Fld Z h0 r0 "kombos/graph/IdIndex" "direct" "[I" .null) (Fx_slots : Fld Z h0 r0 "kombos/graph/IdIndex" "slots" "[I" .null) (Fx_size : Fld Z h0 r0 "kombos/graph/IdIndex" "size" "I" (.int 2)) :
    own_Con l Z (⟨"kombos/graph/IdIndex", "indexOf", "(J)I"⟩ : MethodName) prog_47_method_4_code 5 (some .int) ws ({ frames := 0, cells := 0, slots := 0, locals := 0 } : Room) #[(.ref r0), (.long 2)] h0 n0 (own_Q_own_rm9_2 Z  h0 n0) := by
  refine own_body (plainFor_of_name own_pn0) ?_
  intro p e s m below meth c T0 hx hZ hby hml hown hnm hret hlk Y0
  replace hown : s.vm.findClass "kombos/graph/IdIndex" = some m.cls := hown
  replace hnm : meth.name = "indexOf" := hnm
  rw [own_ef_own_rm9_2 m r0]
  show own_Ends _ _ _ _ (T0.setTop (mkF m 0 #[rv r0, .val (.long 2), .second, .unset, .unset] []))
  refine o_aloadN Y0 hx hby d9_0 rfl rfl ?_
  refine p_getF Y0 hx hZ hown (host := "") (Or.inl (own_w hw 68 rfl)) Via.refl Fx_direct hby rfl d9_1 (fun T31 Y32 => ?_)
  refine o_ifnullYes Y32 hx hby (pc' := 38) d9_4 rfl (by decide) (by decide) ?_
  refine o_aloadN Y32 hx hby d9_38 rfl rfl ?_
  refine p_getF Y32 hx hZ hown (host := "") (Or.inl (own_w hw 70 rfl)) Via.refl Fx_slots hby rfl d9_39 (fun T33 Y34 => ?_)
  refine o_ifnullYes Y34 hx hby (pc' := 64) d9_42 rfl (by decide) (by decide) ?_
  refine o_lloadN Y34 hx hby d9_64 rfl ?_
  refine o_aloadN Y34 hx hby d9_65 rfl rfl ?_
  refine p_getF Y34 hx hZ hown (host := "") (Or.inl (own_w hw 72 rfl)) Via.refl Fx_first hby rfl d9_66 (fun T35 Y36 => ?_)
  refine own_st (fun t_ => XS.lsub (own_here Y36) hx rfl (hb hby d9_69) rfl) ?_
  show own_Ends _ _ _ _ (T35.setTop (mkF m 70 #[rv r0, .val (.long 2), .second, .unset, .unset] [(.long 2)]))
  refine own_st (fun t_ => XS.lstoreN (own_here Y36) hx rfl (hb hby d9_70) rfl (l' := #[rv r0, .val (.long 2), .second, .val (.long 2), .second]) rfl) ?_
  show own_Ends _ _ _ _ (T35.setTop (mkF m 71 #[rv r0, .val (.long 2), .second, .val (.long 2), .second] []))
  refine o_lloadN Y36 hx hby d9_71 rfl ?_
  refine own_st (fun t_ => XS.lconst (own_here Y36) hx rfl (hb hby d9_72) ) ?_
  show own_Ends _ _ _ _ (T35.setTop (mkF m 73 #[rv r0, .val (.long 2), .second, .val (.long 2), .second] [(.long 0), (.long 2)]))
  refine own_st (fun t_ => XS.lcmp (own_here Y36) hx rfl (hb hby d9_73) rfl) ?_
  show own_Ends _ _ _ _ (T35.setTop (mkF m 74 #[rv r0, .val (.long 2), .second, .val (.long 2), .second] [(.int (lcmpW (2 : Int64) (0 : Int64)))]))
  refine o_ifNo Y36 hx hby d9_74 rfl (XT.ll_lt_f (by decide)) ?_
  refine o_lloadN Y36 hx hby d9_77 rfl ?_
  refine o_aloadN Y36 hx hby d9_78 rfl rfl ?_
  refine p_getF Y36 hx hZ hown (host := "") (Or.inl (own_w hw 74 rfl)) Via.refl Fx_size hby rfl d9_79 (fun T37 Y38 => ?_)
  refine o_i2l Y38 hx hby d9_82 rfl (z := 2) rfl ?_
  refine own_st (fun t_ => XS.lcmp (own_here Y38) hx rfl (hb hby d9_83) rfl) ?_
  show own_Ends _ _ _ _ (T37.setTop (mkF m 84 #[rv r0, .val (.long 2), .second, .val (.long 2), .second] [(.int (lcmpW (2 : Int64) (2 : Int64)))]))
  refine o_ifYes Y38 hx hby (pc' := 92) d9_84 rfl (XT.ll_ge_t (by decide)) (by decide) (by decide) ?_
  refine o_iconst Y38 hx hby d9_92 (x := (-1)) rfl ?_
  refine own_retI Y38 hx hlk hret (hb hby d9_93) (by decide) (by decide) ?_
  exact ⟨rfl, rfl⟩
theorem own_l0J (x : Int64) : x - 0 = x := by simp
theorem own_vt {x : Int64} {y : Int32} (h : x.toInt32 = y) (h0 : 0 ≤ x.toInt) (h3 : x.toInt < 3) : 0 ≤ y.toInt ∧ y.toInt < 3 := by
  subst h; have q := c_l2i x; have r := rng32 x.toInt32; omega
theorem d9_87 : decode bc9 87 = .ok (.lload_n 3, 1) := by decide +kernel
theorem d9_88 : decode bc9 88 = .ok (.l2i, 1) := by decide +kernel
theorem d9_89 : decode bc9 89 = .ok (.goto 4, 3) := by decide +kernel
theorem own_ef_own_rm9_f (m : MethodId) (r0 : Addr) (x1 : Int64) : entryFrame m #[(.ref r0), (.long x1)] 5 = mkF m 0 #[rv r0, .val (.long x1), .second, .unset, .unset] [] := by first | (simp [entryFrame, mkF, argsToLocals, Value.category]; done) | rfl
def own_Q_own_rm9_f (Z : State) (x1 : Int64) (h0 : Heap) (n0 : Nat) (v : Option Value) (h : Heap) : Prop := v = some (.int x1.toInt32) ∧ h0 = h
set_option maxRecDepth 65536 in
set_option maxHeartbeats 40000000 in
theorem own_rm9_f (l : Launch) (Z : State) (a0 : Array Value) (hw : ∀ d ∈ tables_1, d.before a0 Z = true) (ws : List Jvm.Cond) (r0 : Addr) (x1 : Int64)  (h0 : Heap) (n0 : Nat)  (Ex : Exa Z h0 r0 "kombos/graph/IdIndex") (Fx_maxSize : Fld Z h0 r0 "kombos/graph/IdIndex" "maxSize" "I" (.int 536870912)) (Fx_ids : Fld Z h0 r0 "kombos/graph/IdIndex" "ids" "[J" .null) (Fx_first : Fld Z h0 r0 "kombos/graph/IdIndex" "first" "J" (.long 0)) (Fx_direct : Fld Z h0 r0 "kombos/graph/IdIndex" "direct" "[I" .null) (Fx_slots : Fld Z h0 r0 "kombos/graph/IdIndex" "slots" "[I" .null) (Fx_size : Fld Z h0 r0 "kombos/graph/IdIndex" "size" "I" (.int 3)) (hx0 : 0 ≤ x1.toInt) (hx3 : x1.toInt < 3) :
    own_Con l Z (⟨"kombos/graph/IdIndex", "indexOf", "(J)I"⟩ : MethodName) prog_47_method_4_code 5 (some .int) ws ({ frames := 0, cells := 0, slots := 0, locals := 0 } : Room) #[(.ref r0), (.long x1)] h0 n0 (own_Q_own_rm9_f Z x1 h0 n0) := by
  refine own_body (plainFor_of_name own_pn0) ?_
  intro p e s m below meth c T0 hx hZ hby hml hown hnm hret hlk Y0
  replace hown : s.vm.findClass "kombos/graph/IdIndex" = some m.cls := hown
  replace hnm : meth.name = "indexOf" := hnm
  rw [own_ef_own_rm9_f m r0 x1]
  show own_Ends _ _ _ _ (T0.setTop (mkF m 0 #[rv r0, .val (.long x1), .second, .unset, .unset] []))
  refine o_aloadN Y0 hx hby d9_0 rfl rfl ?_
  refine p_getF Y0 hx hZ hown (host := "") (Or.inl (own_w hw 68 rfl)) Via.refl Fx_direct hby rfl d9_1 (fun T39 Y40 => ?_)
  refine o_ifnullYes Y40 hx hby (pc' := 38) d9_4 rfl (by decide) (by decide) ?_
  refine o_aloadN Y40 hx hby d9_38 rfl rfl ?_
  refine p_getF Y40 hx hZ hown (host := "") (Or.inl (own_w hw 70 rfl)) Via.refl Fx_slots hby rfl d9_39 (fun T41 Y42 => ?_)
  refine o_ifnullYes Y42 hx hby (pc' := 64) d9_42 rfl (by decide) (by decide) ?_
  refine o_lloadN Y42 hx hby d9_64 rfl ?_
  refine o_aloadN Y42 hx hby d9_65 rfl rfl ?_
  refine p_getF Y42 hx hZ hown (host := "") (Or.inl (own_w hw 72 rfl)) Via.refl Fx_first hby rfl d9_66 (fun T43 Y44 => ?_)
  refine own_st (fun t_ => XS.lsub (own_here Y44) hx rfl (hb hby d9_69) rfl) ?_
  show own_Ends _ _ _ _ (T43.setTop (mkF m 70 #[rv r0, .val (.long x1), .second, .unset, .unset] [(.long (x1 - (0 : Int64)))]))
  refine own_st (fun t_ => XS.lstoreN (own_here Y44) hx rfl (hb hby d9_70) rfl (l' := #[rv r0, .val (.long x1), .second, .val (.long (x1 - (0 : Int64))), .second]) rfl) ?_
  show own_Ends _ _ _ _ (T43.setTop (mkF m 71 #[rv r0, .val (.long x1), .second, .val (.long (x1 - (0 : Int64))), .second] []))
  refine o_lloadN Y44 hx hby d9_71 rfl ?_
  refine own_st (fun t_ => XS.lconst (own_here Y44) hx rfl (hb hby d9_72) ) ?_
  show own_Ends _ _ _ _ (T43.setTop (mkF m 73 #[rv r0, .val (.long x1), .second, .val (.long (x1 - (0 : Int64))), .second] [(.long 0), (.long (x1 - (0 : Int64)))]))
  refine own_st (fun t_ => XS.lcmp (own_here Y44) hx rfl (hb hby d9_73) rfl) ?_
  show own_Ends _ _ _ _ (T43.setTop (mkF m 74 #[rv r0, .val (.long x1), .second, .val (.long (x1 - (0 : Int64))), .second] [(.int (lcmpW (x1 - (0 : Int64)) (0 : Int64)))]))
  refine o_ifNo Y44 hx hby d9_74 rfl (XT.ll_lt_f (by rw [Int64.lt_iff_toInt_lt]; have q := c_lsub x1 0; have r := rng64 (x1 - 0); have e0 : (0 : Int64).toInt = 0 := rfl; omega)) ?_
  refine o_lloadN Y44 hx hby d9_77 rfl ?_
  refine o_aloadN Y44 hx hby d9_78 rfl rfl ?_
  refine p_getF Y44 hx hZ hown (host := "") (Or.inl (own_w hw 74 rfl)) Via.refl Fx_size hby rfl d9_79 (fun T45 Y46 => ?_)
  refine o_i2l Y46 hx hby d9_82 rfl (z := 3) rfl ?_
  refine own_st (fun t_ => XS.lcmp (own_here Y46) hx rfl (hb hby d9_83) rfl) ?_
  show own_Ends _ _ _ _ (T45.setTop (mkF m 84 #[rv r0, .val (.long x1), .second, .val (.long (x1 - (0 : Int64))), .second] [(.int (lcmpW (x1 - (0 : Int64)) (3 : Int64)))]))
  refine o_ifNo Y46 hx hby d9_84 rfl (XT.ll_ge_f (by rw [Int64.lt_iff_toInt_lt]; have q := c_lsub x1 0; have r := rng64 (x1 - 0); have e0 : (0 : Int64).toInt = 0 := rfl; have e3 : (3 : Int64).toInt = 3 := rfl; omega)) ?_
  refine o_lloadN Y46 hx hby d9_87 rfl ?_
  refine o_l2i Y46 hx hby d9_88 rfl rfl ?_
  refine o_goto Y46 hx hby (pc' := 93) d9_89 (by decide) (by decide) ?_
  refine own_retI Y46 hx hlk hret (hb hby d9_93) (by decide) (by decide) ?_
  exact ⟨by rw [own_l0J], rfl⟩
def bc11 : ByteArray := prog_47_method_8_code
theorem d11_0 : decode bc11 0 = .ok (.aload_n 0, 1) := by decide +kernel
theorem d11_1 : decode bc11 1 = .ok (.getfield 13, 3) := by decide +kernel
theorem d11_4 : decode bc11 4 = .ok (.aload_n 0, 1) := by decide +kernel
theorem d11_5 : decode bc11 5 = .ok (.getfield 7, 3) := by decide +kernel
theorem d11_8 : decode bc11 8 = .ok (.if_icmp .ne 11, 3) := by decide +kernel
theorem d11_19 : decode bc11 19 = .ok (.aload_n 0, 1) := by decide +kernel
theorem d11_20 : decode bc11 20 = .ok (.getfield 16, 3) := by decide +kernel
theorem d11_23 : decode bc11 23 = .ok (.ifnonnull 83, 3) := by decide +kernel
theorem d11_26 : decode bc11 26 = .ok (.aload_n 0, 1) := by decide +kernel
theorem d11_27 : decode bc11 27 = .ok (.getfield 13, 3) := by decide +kernel
theorem d11_30 : decode bc11 30 = .ok (.ifCond .ne 20, 3) := by decide +kernel
theorem d11_33 : decode bc11 33 = .ok (.aload_n 0, 1) := by decide +kernel
theorem d11_34 : decode bc11 34 = .ok (.lload_n 1, 1) := by decide +kernel
theorem d11_35 : decode bc11 35 = .ok (.putfield 20, 3) := by decide +kernel
theorem d11_38 : decode bc11 38 = .ok (.aload_n 0, 1) := by decide +kernel
theorem d11_39 : decode bc11 39 = .ok (.dup, 1) := by decide +kernel
theorem d11_40 : decode bc11 40 = .ok (.getfield 13, 3) := by decide +kernel
theorem d11_43 : decode bc11 43 = .ok (.dup_x1, 1) := by decide +kernel
theorem d11_44 : decode bc11 44 = .ok (.iconst 1, 1) := by decide +kernel
theorem d11_45 : decode bc11 45 = .ok (.iadd, 1) := by decide +kernel
theorem d11_46 : decode bc11 46 = .ok (.putfield 13, 3) := by decide +kernel
theorem d11_49 : decode bc11 49 = .ok (.ireturn, 1) := by decide +kernel
theorem own_ef_own_rm11 (m : MethodId) (r0 : Addr) : entryFrame m #[(.ref r0), (.long 0)] 4 = mkF m 0 #[rv r0, .val (.long 0), .second, .unset] [] := by first | (simp [entryFrame, mkF, argsToLocals, Value.category]; done) | rfl
def own_Q_own_rm11 (Z : State) (r0 : Addr) (h0 : Heap) (n0 : Nat) (v : Option Value) (h : Heap) : Prop := v = some (.int 0) ∧ Keep h0 h [r0] ∧ Exa Z h r0 "kombos/graph/IdIndex" ∧ Fld Z h r0 "kombos/graph/IdIndex" "maxSize" "I" (.int 536870912) ∧ Fld Z h r0 "kombos/graph/IdIndex" "ids" "[J" .null ∧ Fld Z h r0 "kombos/graph/IdIndex" "first" "J" (.long 0) ∧ Fld Z h r0 "kombos/graph/IdIndex" "direct" "[I" .null ∧ Fld Z h r0 "kombos/graph/IdIndex" "slots" "[I" .null ∧ Fld Z h r0 "kombos/graph/IdIndex" "size" "I" (.int 1)
set_option maxRecDepth 65536 in
set_option maxHeartbeats 40000000 in
theorem own_rm11 (l : Launch) (Z : State) (a0 : Array Value) (hw : ∀ d ∈ tables_1, d.before a0 Z = true) (ws : List Jvm.Cond) (r0 : Addr)  (h0 : Heap) (n0 : Nat)  (Ex : Exa Z h0 r0 "kombos/graph/IdIndex") (Fx_maxSize : Fld Z h0 r0 "kombos/graph/IdIndex" "maxSize" "I" (.int 536870912)) (Fx_ids : Fld Z h0 r0 "kombos/graph/IdIndex" "ids" "[J" .null) (Fx_first : Fld Z h0 r0 "kombos/graph/IdIndex" "first" "J" (.long 0)) (Fx_direct : Fld Z h0 r0 "kombos/graph/IdIndex" "direct" "[I" .null) (Fx_slots : Fld Z h0 r0 "kombos/graph/IdIndex" "slots" "[I" .null) (Fx_size : Fld Z h0 r0 "kombos/graph/IdIndex" "size" "I" (.int 0)) (g : n0 ≤ r0) :
    own_Con l Z (⟨"kombos/graph/IdIndex", "addWithoutRoom", "(J)I"⟩ : MethodName) prog_47_method_8_code 4 (some .int) ws ({ frames := 0, cells := 0, slots := 0, locals := 0 } : Room) #[(.ref r0), (.long 0)] h0 n0 (own_Q_own_rm11 Z r0 h0 n0) := by
  refine own_body (plainFor_of_name own_pn0) ?_
  intro p e s m below meth c T0 hx hZ hby hml hown hnm hret hlk Y0
  replace hown : s.vm.findClass "kombos/graph/IdIndex" = some m.cls := hown
  replace hnm : meth.name = "addWithoutRoom" := hnm
  rw [own_ef_own_rm11 m r0]
  show own_Ends _ _ _ _ (T0.setTop (mkF m 0 #[rv r0, .val (.long 0), .second, .unset] []))
  refine o_aloadN Y0 hx hby d11_0 rfl rfl ?_
  refine p_getF Y0 hx hZ hown (host := "") (Or.inl (own_w hw 74 rfl)) Via.refl Fx_size hby rfl d11_1 (fun T47 Y48 => ?_)
  refine o_aloadN Y48 hx hby d11_4 rfl rfl ?_
  refine p_getF Y48 hx hZ hown (host := "") (Or.inl (own_w hw 41 rfl)) Via.refl Fx_maxSize hby rfl d11_5 (fun T49 Y50 => ?_)
  refine o_icmpYes Y50 hx hby (pc' := 19) d11_8 rfl (XT.ii_ne_t (by decide)) (by decide) (by decide) ?_
  refine o_aloadN Y50 hx hby d11_19 rfl rfl ?_
  refine p_getF Y50 hx hZ hown (host := "") (Or.inl (own_w hw 80 rfl)) Via.refl Fx_ids hby rfl d11_20 (fun T51 Y52 => ?_)
  refine o_ifnonnullNo Y52 hx hby d11_23 rfl ?_
  refine o_aloadN Y52 hx hby d11_26 rfl rfl ?_
  refine p_getF Y52 hx hZ hown (host := "") (Or.inl (own_w hw 74 rfl)) Via.refl Fx_size hby rfl d11_27 (fun T53 Y54 => ?_)
  refine o_ifNo Y54 hx hby d11_30 rfl (XT.i0_ne_f (by decide)) ?_
  refine o_aloadN Y54 hx hby d11_33 rfl rfl ?_
  refine o_lloadN Y54 hx hby d11_34 rfl ?_
  refine p_putF Y54 hx hZ hown (host := "") (Or.inl (own_w hw 72 rfl)) Via.refl Fx_first Ex (Or.inl (own_w hw 73 rfl)) (own_w hw 35 rfl) g (ty := .long) (by decide) rfl rfl hby rfl d11_35 (fun T55 h57 Y56 W58 F59 => ?_)
  refine o_aloadN Y56 hx hby d11_38 rfl rfl ?_
  refine o_dup Y56 hx hby d11_39 rfl rfl ?_
  have f60 := own_sn Fx_size W58 (own_wl hw 75 rfl) (own_wl hw 73 rfl) (by decide) own_f1 own_f2
  refine p_getF Y56 hx hZ hown (host := "") (Or.inl (own_w hw 74 rfl)) Via.refl f60 hby rfl d11_40 (fun T61 Y62 => ?_)
  refine own_st (fun t_ => XS.dupX1 (own_here Y62) hx rfl (hb hby d11_43) rfl rfl rfl) ?_
  show own_Ends _ _ _ _ (T61.setTop (mkF m 44 #[rv r0, .val (.long 0), .second, .unset] [(.int 0), (.ref r0), (.int 0)]))
  refine o_iconst Y62 hx hby d11_44 (x := 1) rfl ?_
  refine o_iadd Y62 hx hby d11_45 rfl (z := 1) rfl ?_
  have f63 := Ex.wr W58
  refine p_putF Y62 hx hZ hown (host := "") (Or.inl (own_w hw 74 rfl)) Via.refl f60 f63 (Or.inl (own_w hw 75 rfl)) (own_w hw 35 rfl) g (ty := .int) (by decide) rfl rfl hby rfl d11_46 (fun T64 h66 Y65 W67 F68 => ?_)
  have K69 : Keep h0 h57 [r0] := (Keep.refl h0 [r0]).wr W58 (Or.inl (List.mem_of_getElem? (i := 0) rfl))
  have K70 : Keep h0 h66 [r0] := K69.wr W67 (Or.inl (List.mem_of_getElem? (i := 0) rfl))
  have f71 := f63.wr W67
  have f72 := own_sn Fx_maxSize W58 (own_wf hw 42 rfl) (own_wl hw 73 rfl) (by decide) own_f1 own_f2
  have f73 := own_sn f72 W67 (own_wf hw 42 rfl) (own_wl hw 75 rfl) (by decide) own_f1 own_f1
  have f74 := own_sn Fx_ids W58 (own_wl hw 81 rfl) (own_wl hw 73 rfl) (by decide) own_f0 own_f2
  have f75 := own_sn f74 W67 (own_wl hw 81 rfl) (own_wl hw 75 rfl) (by decide) own_f0 own_f1
  have f76 := own_sn F59 W67 (own_wl hw 73 rfl) (own_wl hw 75 rfl) (by decide) own_f2 own_f1
  have f77 := own_sn Fx_direct W58 (own_wl hw 69 rfl) (own_wl hw 73 rfl) (by decide) own_f3 own_f2
  have f78 := own_sn f77 W67 (own_wl hw 69 rfl) (own_wl hw 75 rfl) (by decide) own_f3 own_f1
  have f79 := own_sn Fx_slots W58 (own_wl hw 71 rfl) (own_wl hw 73 rfl) (by decide) own_f3 own_f2
  have f80 := own_sn f79 W67 (own_wl hw 71 rfl) (own_wl hw 75 rfl) (by decide) own_f3 own_f1
  refine own_retI Y65 hx hlk hret (hb hby d11_49) (by decide) (by decide) ?_
  exact ⟨rfl, K70, f71, f73, f75, f76, f78, f80, F68⟩
theorem own_pd0 : parseMethodDescriptor "(J)I" = some ⟨[.long], some .int⟩ := by decide +kernel
def bc10 : ByteArray := prog_47_method_6_code
theorem d10_0 : decode bc10 0 = .ok (.aload_n 0, 1) := by decide +kernel
theorem d10_1 : decode bc10 1 = .ok (.getfield 13, 3) := by decide +kernel
theorem d10_4 : decode bc10 4 = .ok (.istore_n 3, 1) := by decide +kernel
theorem d10_5 : decode bc10 5 = .ok (.aload_n 0, 1) := by decide +kernel
theorem d10_6 : decode bc10 6 = .ok (.getfield 16, 3) := by decide +kernel
theorem d10_9 : decode bc10 9 = .ok (.ifnonnull 39, 3) := by decide +kernel
theorem d10_12 : decode bc10 12 = .ok (.iload_n 3, 1) := by decide +kernel
theorem d10_13 : decode bc10 13 = .ok (.ifCond .le 72, 3) := by decide +kernel
theorem d10_85 : decode bc10 85 = .ok (.aload_n 0, 1) := by decide +kernel
theorem d10_86 : decode bc10 86 = .ok (.lload_n 1, 1) := by decide +kernel
theorem d10_87 : decode bc10 87 = .ok (.invokevirtual 56, 3) := by decide +kernel
theorem d10_90 : decode bc10 90 = .ok (.ireturn, 1) := by decide +kernel
theorem own_ef_own_rm10_0 (m : MethodId) (r0 : Addr) : entryFrame m #[(.ref r0), (.long 0)] 4 = mkF m 0 #[rv r0, .val (.long 0), .second, .unset] [] := by first | (simp [entryFrame, mkF, argsToLocals, Value.category]; done) | rfl
def own_Q_own_rm10_0 (Z : State) (r0 : Addr) (h0 : Heap) (n0 : Nat) (v : Option Value) (h : Heap) : Prop := v = some (.int 0) ∧ Keep h0 h [r0] ∧ Exa Z h r0 "kombos/graph/IdIndex" ∧ Fld Z h r0 "kombos/graph/IdIndex" "maxSize" "I" (.int 536870912) ∧ Fld Z h r0 "kombos/graph/IdIndex" "ids" "[J" .null ∧ Fld Z h r0 "kombos/graph/IdIndex" "first" "J" (.long 0) ∧ Fld Z h r0 "kombos/graph/IdIndex" "direct" "[I" .null ∧ Fld Z h r0 "kombos/graph/IdIndex" "slots" "[I" .null ∧ Fld Z h r0 "kombos/graph/IdIndex" "size" "I" (.int 1)
set_option maxRecDepth 65536 in
set_option maxHeartbeats 40000000 in
theorem own_rm10_0 (l : Launch) (Z : State) (a0 : Array Value) (hw : ∀ d ∈ tables_1, d.before a0 Z = true) (ws : List Jvm.Cond) (r0 : Addr)  (h0 : Heap) (n0 : Nat)  (Ex : Exa Z h0 r0 "kombos/graph/IdIndex") (Fx_maxSize : Fld Z h0 r0 "kombos/graph/IdIndex" "maxSize" "I" (.int 536870912)) (Fx_ids : Fld Z h0 r0 "kombos/graph/IdIndex" "ids" "[J" .null) (Fx_first : Fld Z h0 r0 "kombos/graph/IdIndex" "first" "J" (.long 0)) (Fx_direct : Fld Z h0 r0 "kombos/graph/IdIndex" "direct" "[I" .null) (Fx_slots : Fld Z h0 r0 "kombos/graph/IdIndex" "slots" "[I" .null) (Fx_size : Fld Z h0 r0 "kombos/graph/IdIndex" "size" "I" (.int 0)) (g : n0 ≤ r0) :
    own_Con l Z (⟨"kombos/graph/IdIndex", "addNew", "(J)I"⟩ : MethodName) prog_47_method_6_code 4 (some .int) ws ({ frames := 1, cells := 0, slots := 0, locals := 15 } : Room) #[(.ref r0), (.long 0)] h0 n0 (own_Q_own_rm10_0 Z r0 h0 n0) := by
  refine own_body (plainFor_of_name own_pn0) ?_
  intro p e s m below meth c T0 hx hZ hby hml hown hnm hret hlk Y0
  replace hown : s.vm.findClass "kombos/graph/IdIndex" = some m.cls := hown
  replace hnm : meth.name = "addNew" := hnm
  rw [own_ef_own_rm10_0 m r0]
  show own_Ends _ _ _ _ (T0.setTop (mkF m 0 #[rv r0, .val (.long 0), .second, .unset] []))
  refine o_aloadN Y0 hx hby d10_0 rfl rfl ?_
  refine p_getF Y0 hx hZ hown (host := "") (Or.inl (own_w hw 74 rfl)) Via.refl Fx_size hby rfl d10_1 (fun T81 Y82 => ?_)
  refine o_istoreN Y82 hx hby d10_4 rfl (l' := #[rv r0, .val (.long 0), .second, iv 0]) rfl ?_
  refine o_aloadN Y82 hx hby d10_5 rfl rfl ?_
  refine p_getF Y82 hx hZ hown (host := "") (Or.inl (own_w hw 80 rfl)) Via.refl Fx_ids hby rfl d10_6 (fun T83 Y84 => ?_)
  refine o_ifnonnullNo Y84 hx hby d10_9 rfl ?_
  refine o_iloadN Y84 hx hby d10_12 rfl ?_
  refine o_ifYes Y84 hx hby (pc' := 85) d10_13 rfl (XT.i0_le_t (by decide)) (by decide) (by decide) ?_
  refine o_aloadN Y84 hx hby d10_85 rfl rfl ?_
  refine o_lloadN Y84 hx hby d10_86 rfl ?_
  refine own_callP Y84 hx hZ (y := (⟨"kombos/graph/IdIndex", "addWithoutRoom", "(J)I"⟩ : MethodName)) hown (own_w hw 82 rfl) (own_w hw 83 rfl) (own_w hw 35 rfl) (own_w hw 84 rfl) (own_w hw 36 rfl) (own_w hw 85 rfl) (by decide) (a := r0) Ex (argsL := [(.long 0)]) (rest := []) (own_rm11 l Z a0 hw [] r0  h0 n0  Ex Fx_maxSize Fx_ids Fx_first Fx_direct Fx_slots Fx_size g) (W := 0) (by decide) (by decide) (by decide) (by decide) rfl (by rw [hml]; rfl) (lenOf own_pd0 rfl) rfl (by show 2 * 0 + _ ≤ _; exact Nat.le_of_eq rfl) (hb hby d10_87) (fun T85 h87 v88 Y86 q89 => ?_)
  obtain ⟨rfl, K90, F91, F92, F93, F94, F95, F96, F97⟩ := q89
  show own_Ends _ _ _ _ (T85.setTop (mkF m 90 #[rv r0, .val (.long 0), .second, iv 0] [(.int 0)]))
  have K98 : Keep h0 h87 [r0] := (Keep.refl h0 [r0]).trans K90 (allS (Or.inl (List.mem_of_getElem? (i := 0) rfl)) all0)
  refine own_retI Y86 hx hlk hret (hb hby d10_90) (by decide) (by decide) ?_
  exact ⟨rfl, K98, F91, F92, F93, F94, F95, F96, F97⟩
theorem d10_16 : decode bc10 16 = .ok (.iload_n 3, 1) := by decide +kernel
theorem d10_17 : decode bc10 17 = .ok (.aload_n 0, 1) := by decide +kernel
theorem d10_18 : decode bc10 18 = .ok (.getfield 7, 3) := by decide +kernel
theorem d10_21 : decode bc10 21 = .ok (.if_icmp .ge 64, 3) := by decide +kernel
theorem d10_24 : decode bc10 24 = .ok (.lload_n 1, 1) := by decide +kernel
theorem d10_25 : decode bc10 25 = .ok (.aload_n 0, 1) := by decide +kernel
theorem d10_26 : decode bc10 26 = .ok (.getfield 20, 3) := by decide +kernel
theorem d10_29 : decode bc10 29 = .ok (.lsub, 1) := by decide +kernel
theorem d10_30 : decode bc10 30 = .ok (.iload_n 3, 1) := by decide +kernel
theorem d10_31 : decode bc10 31 = .ok (.i2l, 1) := by decide +kernel
theorem d10_32 : decode bc10 32 = .ok (.lcmp, 1) := by decide +kernel
theorem d10_33 : decode bc10 33 = .ok (.ifCond .ne 52, 3) := by decide +kernel
theorem d10_36 : decode bc10 36 = .ok (.aload_n 0, 1) := by decide +kernel
theorem d10_37 : decode bc10 37 = .ok (.dup, 1) := by decide +kernel
theorem d10_38 : decode bc10 38 = .ok (.getfield 13, 3) := by decide +kernel
theorem d10_41 : decode bc10 41 = .ok (.iconst 1, 1) := by decide +kernel
theorem d10_42 : decode bc10 42 = .ok (.iadd, 1) := by decide +kernel
theorem d10_43 : decode bc10 43 = .ok (.putfield 13, 3) := by decide +kernel
theorem d10_46 : decode bc10 46 = .ok (.iload_n 3, 1) := by decide +kernel
theorem d10_47 : decode bc10 47 = .ok (.ireturn, 1) := by decide +kernel
theorem own_ef_own_rm10_1 (m : MethodId) (r0 : Addr) : entryFrame m #[(.ref r0), (.long 1)] 4 = mkF m 0 #[rv r0, .val (.long 1), .second, .unset] [] := by first | (simp [entryFrame, mkF, argsToLocals, Value.category]; done) | rfl
def own_Q_own_rm10_1 (Z : State) (r0 : Addr) (h0 : Heap) (n0 : Nat) (v : Option Value) (h : Heap) : Prop := v = some (.int 1) ∧ Keep h0 h [r0] ∧ Exa Z h r0 "kombos/graph/IdIndex" ∧ Fld Z h r0 "kombos/graph/IdIndex" "maxSize" "I" (.int 536870912) ∧ Fld Z h r0 "kombos/graph/IdIndex" "ids" "[J" .null ∧ Fld Z h r0 "kombos/graph/IdIndex" "first" "J" (.long 0) ∧ Fld Z h r0 "kombos/graph/IdIndex" "direct" "[I" .null ∧ Fld Z h r0 "kombos/graph/IdIndex" "slots" "[I" .null ∧ Fld Z h r0 "kombos/graph/IdIndex" "size" "I" (.int 2)
set_option maxRecDepth 65536 in
set_option maxHeartbeats 40000000 in
theorem own_rm10_1 (l : Launch) (Z : State) (a0 : Array Value) (hw : ∀ d ∈ tables_1, d.before a0 Z = true) (ws : List Jvm.Cond) (r0 : Addr)  (h0 : Heap) (n0 : Nat)  (Ex : Exa Z h0 r0 "kombos/graph/IdIndex") (Fx_maxSize : Fld Z h0 r0 "kombos/graph/IdIndex" "maxSize" "I" (.int 536870912)) (Fx_ids : Fld Z h0 r0 "kombos/graph/IdIndex" "ids" "[J" .null) (Fx_first : Fld Z h0 r0 "kombos/graph/IdIndex" "first" "J" (.long 0)) (Fx_direct : Fld Z h0 r0 "kombos/graph/IdIndex" "direct" "[I" .null) (Fx_slots : Fld Z h0 r0 "kombos/graph/IdIndex" "slots" "[I" .null) (Fx_size : Fld Z h0 r0 "kombos/graph/IdIndex" "size" "I" (.int 1)) (g : n0 ≤ r0) :
    own_Con l Z (⟨"kombos/graph/IdIndex", "addNew", "(J)I"⟩ : MethodName) prog_47_method_6_code 4 (some .int) ws ({ frames := 0, cells := 0, slots := 0, locals := 0 } : Room) #[(.ref r0), (.long 1)] h0 n0 (own_Q_own_rm10_1 Z r0 h0 n0) := by
  refine own_body (plainFor_of_name own_pn0) ?_
  intro p e s m below meth c T0 hx hZ hby hml hown hnm hret hlk Y0
  replace hown : s.vm.findClass "kombos/graph/IdIndex" = some m.cls := hown
  replace hnm : meth.name = "addNew" := hnm
  rw [own_ef_own_rm10_1 m r0]
  show own_Ends _ _ _ _ (T0.setTop (mkF m 0 #[rv r0, .val (.long 1), .second, .unset] []))
  refine o_aloadN Y0 hx hby d10_0 rfl rfl ?_
  refine p_getF Y0 hx hZ hown (host := "") (Or.inl (own_w hw 74 rfl)) Via.refl Fx_size hby rfl d10_1 (fun T99 Y100 => ?_)
  refine o_istoreN Y100 hx hby d10_4 rfl (l' := #[rv r0, .val (.long 1), .second, iv 1]) rfl ?_
  refine o_aloadN Y100 hx hby d10_5 rfl rfl ?_
  refine p_getF Y100 hx hZ hown (host := "") (Or.inl (own_w hw 80 rfl)) Via.refl Fx_ids hby rfl d10_6 (fun T101 Y102 => ?_)
  refine o_ifnonnullNo Y102 hx hby d10_9 rfl ?_
  refine o_iloadN Y102 hx hby d10_12 rfl ?_
  refine o_ifNo Y102 hx hby d10_13 rfl (XT.i0_le_f (by decide)) ?_
  refine o_iloadN Y102 hx hby d10_16 rfl ?_
  refine o_aloadN Y102 hx hby d10_17 rfl rfl ?_
  refine p_getF Y102 hx hZ hown (host := "") (Or.inl (own_w hw 41 rfl)) Via.refl Fx_maxSize hby rfl d10_18 (fun T103 Y104 => ?_)
  refine o_icmpNo Y104 hx hby d10_21 rfl (XT.ii_ge_f (by decide)) ?_
  refine o_lloadN Y104 hx hby d10_24 rfl ?_
  refine o_aloadN Y104 hx hby d10_25 rfl rfl ?_
  refine p_getF Y104 hx hZ hown (host := "") (Or.inl (own_w hw 72 rfl)) Via.refl Fx_first hby rfl d10_26 (fun T105 Y106 => ?_)
  refine own_st (fun t_ => XS.lsub (own_here Y106) hx rfl (hb hby d10_29) rfl) ?_
  show own_Ends _ _ _ _ (T105.setTop (mkF m 30 #[rv r0, .val (.long 1), .second, iv 1] [(.long 1)]))
  refine o_iloadN Y106 hx hby d10_30 rfl ?_
  refine o_i2l Y106 hx hby d10_31 rfl (z := 1) rfl ?_
  refine own_st (fun t_ => XS.lcmp (own_here Y106) hx rfl (hb hby d10_32) rfl) ?_
  show own_Ends _ _ _ _ (T105.setTop (mkF m 33 #[rv r0, .val (.long 1), .second, iv 1] [(.int (lcmpW (1 : Int64) (1 : Int64)))]))
  refine o_ifNo Y106 hx hby d10_33 rfl (XT.ll_ne_f (by decide)) ?_
  refine o_aloadN Y106 hx hby d10_36 rfl rfl ?_
  refine o_dup Y106 hx hby d10_37 rfl rfl ?_
  refine p_getF Y106 hx hZ hown (host := "") (Or.inl (own_w hw 74 rfl)) Via.refl Fx_size hby rfl d10_38 (fun T107 Y108 => ?_)
  refine o_iconst Y108 hx hby d10_41 (x := 1) rfl ?_
  refine o_iadd Y108 hx hby d10_42 rfl (z := 2) rfl ?_
  refine p_putF Y108 hx hZ hown (host := "") (Or.inl (own_w hw 74 rfl)) Via.refl Fx_size Ex (Or.inl (own_w hw 75 rfl)) (own_w hw 35 rfl) g (ty := .int) (by decide) rfl rfl hby rfl d10_43 (fun T109 h111 Y110 W112 F113 => ?_)
  refine o_iloadN Y110 hx hby d10_46 rfl ?_
  have K114 : Keep h0 h111 [r0] := (Keep.refl h0 [r0]).wr W112 (Or.inl (List.mem_of_getElem? (i := 0) rfl))
  have f115 := Ex.wr W112
  have f116 := own_sn Fx_maxSize W112 (own_wf hw 42 rfl) (own_wl hw 75 rfl) (by decide) own_f1 own_f1
  have f117 := own_sn Fx_ids W112 (own_wl hw 81 rfl) (own_wl hw 75 rfl) (by decide) own_f0 own_f1
  have f118 := own_sn Fx_first W112 (own_wl hw 73 rfl) (own_wl hw 75 rfl) (by decide) own_f2 own_f1
  have f119 := own_sn Fx_direct W112 (own_wl hw 69 rfl) (own_wl hw 75 rfl) (by decide) own_f3 own_f1
  have f120 := own_sn Fx_slots W112 (own_wl hw 71 rfl) (own_wl hw 75 rfl) (by decide) own_f3 own_f1
  refine own_retI Y110 hx hlk hret (hb hby d10_47) (by decide) (by decide) ?_
  exact ⟨rfl, K114, f115, f116, f117, f118, f119, f120, F113⟩
theorem own_ef_own_rm10_2 (m : MethodId) (r0 : Addr) : entryFrame m #[(.ref r0), (.long 2)] 4 = mkF m 0 #[rv r0, .val (.long 2), .second, .unset] [] := by first | (simp [entryFrame, mkF, argsToLocals, Value.category]; done) | rfl
def own_Q_own_rm10_2 (Z : State) (r0 : Addr) (h0 : Heap) (n0 : Nat) (v : Option Value) (h : Heap) : Prop := v = some (.int 2) ∧ Keep h0 h [r0] ∧ Exa Z h r0 "kombos/graph/IdIndex" ∧ Fld Z h r0 "kombos/graph/IdIndex" "maxSize" "I" (.int 536870912) ∧ Fld Z h r0 "kombos/graph/IdIndex" "ids" "[J" .null ∧ Fld Z h r0 "kombos/graph/IdIndex" "first" "J" (.long 0) ∧ Fld Z h r0 "kombos/graph/IdIndex" "direct" "[I" .null ∧ Fld Z h r0 "kombos/graph/IdIndex" "slots" "[I" .null ∧ Fld Z h r0 "kombos/graph/IdIndex" "size" "I" (.int 3)
set_option maxRecDepth 65536 in
set_option maxHeartbeats 40000000 in
theorem own_rm10_2 (l : Launch) (Z : State) (a0 : Array Value) (hw : ∀ d ∈ tables_1, d.before a0 Z = true) (ws : List Jvm.Cond) (r0 : Addr)  (h0 : Heap) (n0 : Nat)  (Ex : Exa Z h0 r0 "kombos/graph/IdIndex") (Fx_maxSize : Fld Z h0 r0 "kombos/graph/IdIndex" "maxSize" "I" (.int 536870912)) (Fx_ids : Fld Z h0 r0 "kombos/graph/IdIndex" "ids" "[J" .null) (Fx_first : Fld Z h0 r0 "kombos/graph/IdIndex" "first" "J" (.long 0)) (Fx_direct : Fld Z h0 r0 "kombos/graph/IdIndex" "direct" "[I" .null) (Fx_slots : Fld Z h0 r0 "kombos/graph/IdIndex" "slots" "[I" .null) (Fx_size : Fld Z h0 r0 "kombos/graph/IdIndex" "size" "I" (.int 2)) (g : n0 ≤ r0) :
    own_Con l Z (⟨"kombos/graph/IdIndex", "addNew", "(J)I"⟩ : MethodName) prog_47_method_6_code 4 (some .int) ws ({ frames := 0, cells := 0, slots := 0, locals := 0 } : Room) #[(.ref r0), (.long 2)] h0 n0 (own_Q_own_rm10_2 Z r0 h0 n0) := by
  refine own_body (plainFor_of_name own_pn0) ?_
  intro p e s m below meth c T0 hx hZ hby hml hown hnm hret hlk Y0
  replace hown : s.vm.findClass "kombos/graph/IdIndex" = some m.cls := hown
  replace hnm : meth.name = "addNew" := hnm
  rw [own_ef_own_rm10_2 m r0]
  show own_Ends _ _ _ _ (T0.setTop (mkF m 0 #[rv r0, .val (.long 2), .second, .unset] []))
  refine o_aloadN Y0 hx hby d10_0 rfl rfl ?_
  refine p_getF Y0 hx hZ hown (host := "") (Or.inl (own_w hw 74 rfl)) Via.refl Fx_size hby rfl d10_1 (fun T121 Y122 => ?_)
  refine o_istoreN Y122 hx hby d10_4 rfl (l' := #[rv r0, .val (.long 2), .second, iv 2]) rfl ?_
  refine o_aloadN Y122 hx hby d10_5 rfl rfl ?_
  refine p_getF Y122 hx hZ hown (host := "") (Or.inl (own_w hw 80 rfl)) Via.refl Fx_ids hby rfl d10_6 (fun T123 Y124 => ?_)
  refine o_ifnonnullNo Y124 hx hby d10_9 rfl ?_
  refine o_iloadN Y124 hx hby d10_12 rfl ?_
  refine o_ifNo Y124 hx hby d10_13 rfl (XT.i0_le_f (by decide)) ?_
  refine o_iloadN Y124 hx hby d10_16 rfl ?_
  refine o_aloadN Y124 hx hby d10_17 rfl rfl ?_
  refine p_getF Y124 hx hZ hown (host := "") (Or.inl (own_w hw 41 rfl)) Via.refl Fx_maxSize hby rfl d10_18 (fun T125 Y126 => ?_)
  refine o_icmpNo Y126 hx hby d10_21 rfl (XT.ii_ge_f (by decide)) ?_
  refine o_lloadN Y126 hx hby d10_24 rfl ?_
  refine o_aloadN Y126 hx hby d10_25 rfl rfl ?_
  refine p_getF Y126 hx hZ hown (host := "") (Or.inl (own_w hw 72 rfl)) Via.refl Fx_first hby rfl d10_26 (fun T127 Y128 => ?_)
  refine own_st (fun t_ => XS.lsub (own_here Y128) hx rfl (hb hby d10_29) rfl) ?_
  show own_Ends _ _ _ _ (T127.setTop (mkF m 30 #[rv r0, .val (.long 2), .second, iv 2] [(.long 2)]))
  refine o_iloadN Y128 hx hby d10_30 rfl ?_
  refine o_i2l Y128 hx hby d10_31 rfl (z := 2) rfl ?_
  refine own_st (fun t_ => XS.lcmp (own_here Y128) hx rfl (hb hby d10_32) rfl) ?_
  show own_Ends _ _ _ _ (T127.setTop (mkF m 33 #[rv r0, .val (.long 2), .second, iv 2] [(.int (lcmpW (2 : Int64) (2 : Int64)))]))
  refine o_ifNo Y128 hx hby d10_33 rfl (XT.ll_ne_f (by decide)) ?_
  refine o_aloadN Y128 hx hby d10_36 rfl rfl ?_
  refine o_dup Y128 hx hby d10_37 rfl rfl ?_
  refine p_getF Y128 hx hZ hown (host := "") (Or.inl (own_w hw 74 rfl)) Via.refl Fx_size hby rfl d10_38 (fun T129 Y130 => ?_)
  refine o_iconst Y130 hx hby d10_41 (x := 1) rfl ?_
  refine o_iadd Y130 hx hby d10_42 rfl (z := 3) rfl ?_
  refine p_putF Y130 hx hZ hown (host := "") (Or.inl (own_w hw 74 rfl)) Via.refl Fx_size Ex (Or.inl (own_w hw 75 rfl)) (own_w hw 35 rfl) g (ty := .int) (by decide) rfl rfl hby rfl d10_43 (fun T131 h133 Y132 W134 F135 => ?_)
  refine o_iloadN Y132 hx hby d10_46 rfl ?_
  have K136 : Keep h0 h133 [r0] := (Keep.refl h0 [r0]).wr W134 (Or.inl (List.mem_of_getElem? (i := 0) rfl))
  have f137 := Ex.wr W134
  have f138 := own_sn Fx_maxSize W134 (own_wf hw 42 rfl) (own_wl hw 75 rfl) (by decide) own_f1 own_f1
  have f139 := own_sn Fx_ids W134 (own_wl hw 81 rfl) (own_wl hw 75 rfl) (by decide) own_f0 own_f1
  have f140 := own_sn Fx_first W134 (own_wl hw 73 rfl) (own_wl hw 75 rfl) (by decide) own_f2 own_f1
  have f141 := own_sn Fx_direct W134 (own_wl hw 69 rfl) (own_wl hw 75 rfl) (by decide) own_f3 own_f1
  have f142 := own_sn Fx_slots W134 (own_wl hw 71 rfl) (own_wl hw 75 rfl) (by decide) own_f3 own_f1
  refine own_retI Y132 hx hlk hret (hb hby d10_47) (by decide) (by decide) ?_
  exact ⟨rfl, K136, f137, f138, f139, f140, f141, f142, F135⟩
def bc8 : ByteArray := prog_47_method_5_code
theorem d8_0 : decode bc8 0 = .ok (.aload_n 0, 1) := by decide +kernel
theorem d8_1 : decode bc8 1 = .ok (.lload_n 1, 1) := by decide +kernel
theorem d8_2 : decode bc8 2 = .ok (.invokevirtual 45, 3) := by decide +kernel
theorem d8_5 : decode bc8 5 = .ok (.istore_n 3, 1) := by decide +kernel
theorem d8_6 : decode bc8 6 = .ok (.iload_n 3, 1) := by decide +kernel
theorem d8_7 : decode bc8 7 = .ok (.ifCond .lt 7, 3) := by decide +kernel
theorem d8_14 : decode bc8 14 = .ok (.aload_n 0, 1) := by decide +kernel
theorem d8_15 : decode bc8 15 = .ok (.lload_n 1, 1) := by decide +kernel
theorem d8_16 : decode bc8 16 = .ok (.invokevirtual 49, 3) := by decide +kernel
theorem d8_19 : decode bc8 19 = .ok (.ireturn, 1) := by decide +kernel
theorem own_ef_own_rm8_0 (m : MethodId) (r0 : Addr) : entryFrame m #[(.ref r0), (.long 0)] 4 = mkF m 0 #[rv r0, .val (.long 0), .second, .unset] [] := by first | (simp [entryFrame, mkF, argsToLocals, Value.category]; done) | rfl
def own_Q_own_rm8_0 (Z : State) (r0 : Addr) (h0 : Heap) (n0 : Nat) (v : Option Value) (h : Heap) : Prop := v = some (.int 0) ∧ Keep h0 h [r0] ∧ Exa Z h r0 "kombos/graph/IdIndex" ∧ Fld Z h r0 "kombos/graph/IdIndex" "maxSize" "I" (.int 536870912) ∧ Fld Z h r0 "kombos/graph/IdIndex" "ids" "[J" .null ∧ Fld Z h r0 "kombos/graph/IdIndex" "first" "J" (.long 0) ∧ Fld Z h r0 "kombos/graph/IdIndex" "direct" "[I" .null ∧ Fld Z h r0 "kombos/graph/IdIndex" "slots" "[I" .null ∧ Fld Z h r0 "kombos/graph/IdIndex" "size" "I" (.int 1)
set_option maxRecDepth 65536 in
set_option maxHeartbeats 40000000 in
theorem own_rm8_0 (l : Launch) (Z : State) (a0 : Array Value) (hw : ∀ d ∈ tables_1, d.before a0 Z = true) (ws : List Jvm.Cond) (r0 : Addr)  (h0 : Heap) (n0 : Nat)  (Ex : Exa Z h0 r0 "kombos/graph/IdIndex") (Fx_maxSize : Fld Z h0 r0 "kombos/graph/IdIndex" "maxSize" "I" (.int 536870912)) (Fx_ids : Fld Z h0 r0 "kombos/graph/IdIndex" "ids" "[J" .null) (Fx_first : Fld Z h0 r0 "kombos/graph/IdIndex" "first" "J" (.long 0)) (Fx_direct : Fld Z h0 r0 "kombos/graph/IdIndex" "direct" "[I" .null) (Fx_slots : Fld Z h0 r0 "kombos/graph/IdIndex" "slots" "[I" .null) (Fx_size : Fld Z h0 r0 "kombos/graph/IdIndex" "size" "I" (.int 0)) (g : n0 ≤ r0) :
    own_Con l Z (⟨"kombos/graph/IdIndex", "add", "(J)I"⟩ : MethodName) prog_47_method_5_code 4 (some .int) ws ({ frames := 2, cells := 0, slots := 0, locals := 30 } : Room) #[(.ref r0), (.long 0)] h0 n0 (own_Q_own_rm8_0 Z r0 h0 n0) := by
  refine own_body (plainFor_of_name own_pn0) ?_
  intro p e s m below meth c T0 hx hZ hby hml hown hnm hret hlk Y0
  replace hown : s.vm.findClass "kombos/graph/IdIndex" = some m.cls := hown
  replace hnm : meth.name = "add" := hnm
  rw [own_ef_own_rm8_0 m r0]
  show own_Ends _ _ _ _ (T0.setTop (mkF m 0 #[rv r0, .val (.long 0), .second, .unset] []))
  refine o_aloadN Y0 hx hby d8_0 rfl rfl ?_
  refine o_lloadN Y0 hx hby d8_1 rfl ?_
  refine own_callV Y0 hx hZ (y := (⟨"kombos/graph/IdIndex", "indexOf", "(J)I"⟩ : MethodName)) (z := (⟨"kombos/graph/IdIndex", "indexOf", "(J)I"⟩ : MethodName)) hown (own_w hw 63 rfl) (own_w hw 64 rfl) (notFace_of_selects (args := #[]) (mvT hZ (own_w hw 66 rfl))) (own_w hw 66 rfl) (own_w hw 65 rfl) (own_w hw 36 rfl) (own_w hw 67 rfl) (by decide) (a := r0) Ex (argsL := [(.long 0)]) (rest := []) (own_rm9_0 l Z a0 hw [] r0  h0 n0  Ex Fx_maxSize Fx_ids Fx_first Fx_direct Fx_slots Fx_size) (W := 0) (by decide) (by decide) (by decide) (by decide) rfl (by rw [hml]; rfl) (lenOf own_pd0 rfl) rfl (by show 2 * 0 + _ ≤ _; exact Nat.le_of_eq rfl) (hb hby d8_2) (fun T143 h145 v146 Y144 q147 => ?_)
  obtain ⟨rfl, rfl⟩ := q147
  show own_Ends _ _ _ _ (T143.setTop (mkF m 5 #[rv r0, .val (.long 0), .second, .unset] [(.int (-1))]))
  refine o_istoreN Y144 hx hby d8_5 rfl (l' := #[rv r0, .val (.long 0), .second, iv (-1)]) rfl ?_
  refine o_iloadN Y144 hx hby d8_6 rfl ?_
  refine o_ifYes Y144 hx hby (pc' := 14) d8_7 rfl (XT.i0_lt_t (by decide)) (by decide) (by decide) ?_
  refine o_aloadN Y144 hx hby d8_14 rfl rfl ?_
  refine o_lloadN Y144 hx hby d8_15 rfl ?_
  refine own_callP Y144 hx hZ (y := (⟨"kombos/graph/IdIndex", "addNew", "(J)I"⟩ : MethodName)) hown (own_w hw 76 rfl) (own_w hw 77 rfl) (own_w hw 35 rfl) (own_w hw 78 rfl) (own_w hw 36 rfl) (own_w hw 79 rfl) (by decide) (a := r0) Ex (argsL := [(.long 0)]) (rest := []) (own_rm10_0 l Z a0 hw [] r0  h0 n0  Ex Fx_maxSize Fx_ids Fx_first Fx_direct Fx_slots Fx_size g) (W := 0) (by decide) (by decide) (by decide) (by decide) rfl (by rw [hml]; rfl) (lenOf own_pd0 rfl) rfl (by show 2 * 0 + _ ≤ _; exact Nat.le_of_eq rfl) (hb hby d8_16) (fun T148 h150 v151 Y149 q152 => ?_)
  obtain ⟨rfl, K153, F154, F155, F156, F157, F158, F159, F160⟩ := q152
  show own_Ends _ _ _ _ (T148.setTop (mkF m 19 #[rv r0, .val (.long 0), .second, iv (-1)] [(.int 0)]))
  have K161 : Keep h0 h150 [r0] := (Keep.refl h0 [r0]).trans K153 (allS (Or.inl (List.mem_of_getElem? (i := 0) rfl)) all0)
  refine own_retI Y149 hx hlk hret (hb hby d8_19) (by decide) (by decide) ?_
  exact ⟨rfl, K161, F154, F155, F156, F157, F158, F159, F160⟩
theorem own_ef_own_rm8_1 (m : MethodId) (r0 : Addr) : entryFrame m #[(.ref r0), (.long 1)] 4 = mkF m 0 #[rv r0, .val (.long 1), .second, .unset] [] := by first | (simp [entryFrame, mkF, argsToLocals, Value.category]; done) | rfl
def own_Q_own_rm8_1 (Z : State) (r0 : Addr) (h0 : Heap) (n0 : Nat) (v : Option Value) (h : Heap) : Prop := v = some (.int 1) ∧ Keep h0 h [r0] ∧ Exa Z h r0 "kombos/graph/IdIndex" ∧ Fld Z h r0 "kombos/graph/IdIndex" "maxSize" "I" (.int 536870912) ∧ Fld Z h r0 "kombos/graph/IdIndex" "ids" "[J" .null ∧ Fld Z h r0 "kombos/graph/IdIndex" "first" "J" (.long 0) ∧ Fld Z h r0 "kombos/graph/IdIndex" "direct" "[I" .null ∧ Fld Z h r0 "kombos/graph/IdIndex" "slots" "[I" .null ∧ Fld Z h r0 "kombos/graph/IdIndex" "size" "I" (.int 2)
set_option maxRecDepth 65536 in
set_option maxHeartbeats 40000000 in
theorem own_rm8_1 (l : Launch) (Z : State) (a0 : Array Value) (hw : ∀ d ∈ tables_1, d.before a0 Z = true) (ws : List Jvm.Cond) (r0 : Addr)  (h0 : Heap) (n0 : Nat)  (Ex : Exa Z h0 r0 "kombos/graph/IdIndex") (Fx_maxSize : Fld Z h0 r0 "kombos/graph/IdIndex" "maxSize" "I" (.int 536870912)) (Fx_ids : Fld Z h0 r0 "kombos/graph/IdIndex" "ids" "[J" .null) (Fx_first : Fld Z h0 r0 "kombos/graph/IdIndex" "first" "J" (.long 0)) (Fx_direct : Fld Z h0 r0 "kombos/graph/IdIndex" "direct" "[I" .null) (Fx_slots : Fld Z h0 r0 "kombos/graph/IdIndex" "slots" "[I" .null) (Fx_size : Fld Z h0 r0 "kombos/graph/IdIndex" "size" "I" (.int 1)) (g : n0 ≤ r0) :
    own_Con l Z (⟨"kombos/graph/IdIndex", "add", "(J)I"⟩ : MethodName) prog_47_method_5_code 4 (some .int) ws ({ frames := 1, cells := 0, slots := 0, locals := 16 } : Room) #[(.ref r0), (.long 1)] h0 n0 (own_Q_own_rm8_1 Z r0 h0 n0) := by
  refine own_body (plainFor_of_name own_pn0) ?_
  intro p e s m below meth c T0 hx hZ hby hml hown hnm hret hlk Y0
  replace hown : s.vm.findClass "kombos/graph/IdIndex" = some m.cls := hown
  replace hnm : meth.name = "add" := hnm
  rw [own_ef_own_rm8_1 m r0]
  show own_Ends _ _ _ _ (T0.setTop (mkF m 0 #[rv r0, .val (.long 1), .second, .unset] []))
  refine o_aloadN Y0 hx hby d8_0 rfl rfl ?_
  refine o_lloadN Y0 hx hby d8_1 rfl ?_
  refine own_callV Y0 hx hZ (y := (⟨"kombos/graph/IdIndex", "indexOf", "(J)I"⟩ : MethodName)) (z := (⟨"kombos/graph/IdIndex", "indexOf", "(J)I"⟩ : MethodName)) hown (own_w hw 63 rfl) (own_w hw 64 rfl) (notFace_of_selects (args := #[]) (mvT hZ (own_w hw 66 rfl))) (own_w hw 66 rfl) (own_w hw 65 rfl) (own_w hw 36 rfl) (own_w hw 67 rfl) (by decide) (a := r0) Ex (argsL := [(.long 1)]) (rest := []) (own_rm9_1 l Z a0 hw [] r0  h0 n0  Ex Fx_maxSize Fx_ids Fx_first Fx_direct Fx_slots Fx_size) (W := 0) (by decide) (by decide) (by decide) (by decide) rfl (by rw [hml]; rfl) (lenOf own_pd0 rfl) rfl (by show 2 * 0 + _ ≤ _; exact Nat.le_of_eq rfl) (hb hby d8_2) (fun T162 h164 v165 Y163 q166 => ?_)
  obtain ⟨rfl, rfl⟩ := q166
  show own_Ends _ _ _ _ (T162.setTop (mkF m 5 #[rv r0, .val (.long 1), .second, .unset] [(.int (-1))]))
  refine o_istoreN Y163 hx hby d8_5 rfl (l' := #[rv r0, .val (.long 1), .second, iv (-1)]) rfl ?_
  refine o_iloadN Y163 hx hby d8_6 rfl ?_
  refine o_ifYes Y163 hx hby (pc' := 14) d8_7 rfl (XT.i0_lt_t (by decide)) (by decide) (by decide) ?_
  refine o_aloadN Y163 hx hby d8_14 rfl rfl ?_
  refine o_lloadN Y163 hx hby d8_15 rfl ?_
  refine own_callP Y163 hx hZ (y := (⟨"kombos/graph/IdIndex", "addNew", "(J)I"⟩ : MethodName)) hown (own_w hw 76 rfl) (own_w hw 77 rfl) (own_w hw 35 rfl) (own_w hw 78 rfl) (own_w hw 36 rfl) (own_w hw 79 rfl) (by decide) (a := r0) Ex (argsL := [(.long 1)]) (rest := []) (own_rm10_1 l Z a0 hw [] r0  h0 n0  Ex Fx_maxSize Fx_ids Fx_first Fx_direct Fx_slots Fx_size g) (W := 0) (by decide) (by decide) (by decide) (by decide) rfl (by rw [hml]; rfl) (lenOf own_pd0 rfl) rfl (by show 2 * 0 + _ ≤ _; exact Nat.le_of_eq rfl) (hb hby d8_16) (fun T167 h169 v170 Y168 q171 => ?_)
  obtain ⟨rfl, K172, F173, F174, F175, F176, F177, F178, F179⟩ := q171
  show own_Ends _ _ _ _ (T167.setTop (mkF m 19 #[rv r0, .val (.long 1), .second, iv (-1)] [(.int 1)]))
  have K180 : Keep h0 h169 [r0] := (Keep.refl h0 [r0]).trans K172 (allS (Or.inl (List.mem_of_getElem? (i := 0) rfl)) all0)
  refine own_retI Y168 hx hlk hret (hb hby d8_19) (by decide) (by decide) ?_
  exact ⟨rfl, K180, F173, F174, F175, F176, F177, F178, F179⟩
theorem own_ef_own_rm8_2 (m : MethodId) (r0 : Addr) : entryFrame m #[(.ref r0), (.long 2)] 4 = mkF m 0 #[rv r0, .val (.long 2), .second, .unset] [] := by first | (simp [entryFrame, mkF, argsToLocals, Value.category]; done) | rfl
def own_Q_own_rm8_2 (Z : State) (r0 : Addr) (h0 : Heap) (n0 : Nat) (v : Option Value) (h : Heap) : Prop := v = some (.int 2) ∧ Keep h0 h [r0] ∧ Exa Z h r0 "kombos/graph/IdIndex" ∧ Fld Z h r0 "kombos/graph/IdIndex" "maxSize" "I" (.int 536870912) ∧ Fld Z h r0 "kombos/graph/IdIndex" "ids" "[J" .null ∧ Fld Z h r0 "kombos/graph/IdIndex" "first" "J" (.long 0) ∧ Fld Z h r0 "kombos/graph/IdIndex" "direct" "[I" .null ∧ Fld Z h r0 "kombos/graph/IdIndex" "slots" "[I" .null ∧ Fld Z h r0 "kombos/graph/IdIndex" "size" "I" (.int 3)
set_option maxRecDepth 65536 in
set_option maxHeartbeats 40000000 in
theorem own_rm8_2 (l : Launch) (Z : State) (a0 : Array Value) (hw : ∀ d ∈ tables_1, d.before a0 Z = true) (ws : List Jvm.Cond) (r0 : Addr)  (h0 : Heap) (n0 : Nat)  (Ex : Exa Z h0 r0 "kombos/graph/IdIndex") (Fx_maxSize : Fld Z h0 r0 "kombos/graph/IdIndex" "maxSize" "I" (.int 536870912)) (Fx_ids : Fld Z h0 r0 "kombos/graph/IdIndex" "ids" "[J" .null) (Fx_first : Fld Z h0 r0 "kombos/graph/IdIndex" "first" "J" (.long 0)) (Fx_direct : Fld Z h0 r0 "kombos/graph/IdIndex" "direct" "[I" .null) (Fx_slots : Fld Z h0 r0 "kombos/graph/IdIndex" "slots" "[I" .null) (Fx_size : Fld Z h0 r0 "kombos/graph/IdIndex" "size" "I" (.int 2)) (g : n0 ≤ r0) :
    own_Con l Z (⟨"kombos/graph/IdIndex", "add", "(J)I"⟩ : MethodName) prog_47_method_5_code 4 (some .int) ws ({ frames := 1, cells := 0, slots := 0, locals := 16 } : Room) #[(.ref r0), (.long 2)] h0 n0 (own_Q_own_rm8_2 Z r0 h0 n0) := by
  refine own_body (plainFor_of_name own_pn0) ?_
  intro p e s m below meth c T0 hx hZ hby hml hown hnm hret hlk Y0
  replace hown : s.vm.findClass "kombos/graph/IdIndex" = some m.cls := hown
  replace hnm : meth.name = "add" := hnm
  rw [own_ef_own_rm8_2 m r0]
  show own_Ends _ _ _ _ (T0.setTop (mkF m 0 #[rv r0, .val (.long 2), .second, .unset] []))
  refine o_aloadN Y0 hx hby d8_0 rfl rfl ?_
  refine o_lloadN Y0 hx hby d8_1 rfl ?_
  refine own_callV Y0 hx hZ (y := (⟨"kombos/graph/IdIndex", "indexOf", "(J)I"⟩ : MethodName)) (z := (⟨"kombos/graph/IdIndex", "indexOf", "(J)I"⟩ : MethodName)) hown (own_w hw 63 rfl) (own_w hw 64 rfl) (notFace_of_selects (args := #[]) (mvT hZ (own_w hw 66 rfl))) (own_w hw 66 rfl) (own_w hw 65 rfl) (own_w hw 36 rfl) (own_w hw 67 rfl) (by decide) (a := r0) Ex (argsL := [(.long 2)]) (rest := []) (own_rm9_2 l Z a0 hw [] r0  h0 n0  Ex Fx_maxSize Fx_ids Fx_first Fx_direct Fx_slots Fx_size) (W := 0) (by decide) (by decide) (by decide) (by decide) rfl (by rw [hml]; rfl) (lenOf own_pd0 rfl) rfl (by show 2 * 0 + _ ≤ _; exact Nat.le_of_eq rfl) (hb hby d8_2) (fun T181 h183 v184 Y182 q185 => ?_)
  obtain ⟨rfl, rfl⟩ := q185
  show own_Ends _ _ _ _ (T181.setTop (mkF m 5 #[rv r0, .val (.long 2), .second, .unset] [(.int (-1))]))
  refine o_istoreN Y182 hx hby d8_5 rfl (l' := #[rv r0, .val (.long 2), .second, iv (-1)]) rfl ?_
  refine o_iloadN Y182 hx hby d8_6 rfl ?_
  refine o_ifYes Y182 hx hby (pc' := 14) d8_7 rfl (XT.i0_lt_t (by decide)) (by decide) (by decide) ?_
  refine o_aloadN Y182 hx hby d8_14 rfl rfl ?_
  refine o_lloadN Y182 hx hby d8_15 rfl ?_
  refine own_callP Y182 hx hZ (y := (⟨"kombos/graph/IdIndex", "addNew", "(J)I"⟩ : MethodName)) hown (own_w hw 76 rfl) (own_w hw 77 rfl) (own_w hw 35 rfl) (own_w hw 78 rfl) (own_w hw 36 rfl) (own_w hw 79 rfl) (by decide) (a := r0) Ex (argsL := [(.long 2)]) (rest := []) (own_rm10_2 l Z a0 hw [] r0  h0 n0  Ex Fx_maxSize Fx_ids Fx_first Fx_direct Fx_slots Fx_size g) (W := 0) (by decide) (by decide) (by decide) (by decide) rfl (by rw [hml]; rfl) (lenOf own_pd0 rfl) rfl (by show 2 * 0 + _ ≤ _; exact Nat.le_of_eq rfl) (hb hby d8_16) (fun T186 h188 v189 Y187 q190 => ?_)
  obtain ⟨rfl, K191, F192, F193, F194, F195, F196, F197, F198⟩ := q190
  show own_Ends _ _ _ _ (T186.setTop (mkF m 19 #[rv r0, .val (.long 2), .second, iv (-1)] [(.int 2)]))
  have K199 : Keep h0 h188 [r0] := (Keep.refl h0 [r0]).trans K191 (allS (Or.inl (List.mem_of_getElem? (i := 0) rfl)) all0)
  refine own_retI Y187 hx hlk hret (hb hby d8_19) (by decide) (by decide) ?_
  exact ⟨rfl, K199, F192, F193, F194, F195, F196, F197, F198⟩
theorem d8_10 : decode bc8 10 = .ok (.iload_n 3, 1) := by decide +kernel
theorem d8_11 : decode bc8 11 = .ok (.goto 8, 3) := by decide +kernel
theorem own_ef_own_rm8_f (m : MethodId) (r0 : Addr) (x1 : Int64) : entryFrame m #[(.ref r0), (.long x1)] 4 = mkF m 0 #[rv r0, .val (.long x1), .second, .unset] [] := by first | (simp [entryFrame, mkF, argsToLocals, Value.category]; done) | rfl
def own_Q_own_rm8_f (Z : State) (x1 : Int64) (h0 : Heap) (n0 : Nat) (v : Option Value) (h : Heap) : Prop := v = some (.int x1.toInt32) ∧ h0 = h
set_option maxRecDepth 65536 in
set_option maxHeartbeats 40000000 in
theorem own_rm8_f (l : Launch) (Z : State) (a0 : Array Value) (hw : ∀ d ∈ tables_1, d.before a0 Z = true) (ws : List Jvm.Cond) (r0 : Addr) (x1 : Int64)  (h0 : Heap) (n0 : Nat)  (Ex : Exa Z h0 r0 "kombos/graph/IdIndex") (Fx_maxSize : Fld Z h0 r0 "kombos/graph/IdIndex" "maxSize" "I" (.int 536870912)) (Fx_ids : Fld Z h0 r0 "kombos/graph/IdIndex" "ids" "[J" .null) (Fx_first : Fld Z h0 r0 "kombos/graph/IdIndex" "first" "J" (.long 0)) (Fx_direct : Fld Z h0 r0 "kombos/graph/IdIndex" "direct" "[I" .null) (Fx_slots : Fld Z h0 r0 "kombos/graph/IdIndex" "slots" "[I" .null) (Fx_size : Fld Z h0 r0 "kombos/graph/IdIndex" "size" "I" (.int 3)) (hx0 : 0 ≤ x1.toInt) (hx3 : x1.toInt < 3) :
    own_Con l Z (⟨"kombos/graph/IdIndex", "add", "(J)I"⟩ : MethodName) prog_47_method_5_code 4 (some .int) ws ({ frames := 1, cells := 0, slots := 0, locals := 16 } : Room) #[(.ref r0), (.long x1)] h0 n0 (own_Q_own_rm8_f Z x1 h0 n0) := by
  refine own_body (plainFor_of_name own_pn0) ?_
  intro p e s m below meth c T0 hx hZ hby hml hown hnm hret hlk Y0
  replace hown : s.vm.findClass "kombos/graph/IdIndex" = some m.cls := hown
  replace hnm : meth.name = "add" := hnm
  rw [own_ef_own_rm8_f m r0 x1]
  show own_Ends _ _ _ _ (T0.setTop (mkF m 0 #[rv r0, .val (.long x1), .second, .unset] []))
  refine o_aloadN Y0 hx hby d8_0 rfl rfl ?_
  refine o_lloadN Y0 hx hby d8_1 rfl ?_
  refine own_callV Y0 hx hZ (y := (⟨"kombos/graph/IdIndex", "indexOf", "(J)I"⟩ : MethodName)) (z := (⟨"kombos/graph/IdIndex", "indexOf", "(J)I"⟩ : MethodName)) hown (own_w hw 63 rfl) (own_w hw 64 rfl) (notFace_of_selects (args := #[]) (mvT hZ (own_w hw 66 rfl))) (own_w hw 66 rfl) (own_w hw 65 rfl) (own_w hw 36 rfl) (own_w hw 67 rfl) (by decide) (a := r0) Ex (argsL := [(.long x1)]) (rest := []) (own_rm9_f l Z a0 hw [] r0 x1  h0 n0  Ex Fx_maxSize Fx_ids Fx_first Fx_direct Fx_slots Fx_size hx0 hx3) (W := 0) (by decide) (by decide) (by decide) (by decide) rfl (by rw [hml]; rfl) (lenOf own_pd0 rfl) rfl (by show 2 * 0 + _ ≤ _; exact Nat.le_of_eq rfl) (hb hby d8_2) (fun T200 h202 v203 Y201 q204 => ?_)
  obtain ⟨rfl, rfl⟩ := q204
  show own_Ends _ _ _ _ (T200.setTop (mkF m 5 #[rv r0, .val (.long x1), .second, .unset] [(.int (x1.toInt32))]))
  refine o_istoreN Y201 hx hby d8_5 rfl (l' := #[rv r0, .val (.long x1), .second, iv (x1.toInt32)]) rfl ?_
  refine o_iloadN Y201 hx hby d8_6 rfl ?_
  refine o_ifNo Y201 hx hby d8_7 rfl (XT.i0_lt_f (by have q := own_vt (x := x1) rfl hx0 hx3; rw [own_lt]; have e0 : (0 : Int32).toInt = 0 := rfl; omega)) ?_
  refine o_iloadN Y201 hx hby d8_10 rfl ?_
  refine o_goto Y201 hx hby (pc' := 19) d8_11 (by decide) (by decide) ?_
  refine own_retI Y201 hx hlk hret (hb hby d8_19) (by decide) (by decide) ?_
  exact ⟨rfl, rfl⟩
theorem own_pn1 : plainName "kombos/graph/Graph$Builder" = true := by first | (simp [plainName, overriddenIn]; done) | decide +kernel
def bc7 : ByteArray := prog_45_method_13_code
theorem d7_0 : decode bc7 0 = .ok (.aload_n 0, 1) := by decide +kernel
theorem d7_1 : decode bc7 1 = .ok (.getfield 111, 3) := by decide +kernel
theorem d7_4 : decode bc7 4 = .ok (.ifnonnull 12, 3) := by decide +kernel
theorem d7_7 : decode bc7 7 = .ok (.aload_n 0, 1) := by decide +kernel
theorem d7_8 : decode bc7 8 = .ok (.getfield 53, 3) := by decide +kernel
theorem d7_11 : decode bc7 11 = .ok (.lload_n 1, 1) := by decide +kernel
theorem d7_12 : decode bc7 12 = .ok (.invokevirtual 129, 3) := by decide +kernel
theorem d7_15 : decode bc7 15 = .ok (.ireturn, 1) := by decide +kernel
theorem own_ef_own_rm7_0 (m : MethodId) (r0 : Addr) : entryFrame m #[(.ref r0), (.long 0)] 3 = mkF m 0 #[rv r0, .val (.long 0), .second] [] := by first | (simp [entryFrame, mkF, argsToLocals, Value.category]; done) | rfl
def own_Q_own_rm7_0 (Z : State) (ix : Addr) (h0 : Heap) (n0 : Nat) (v : Option Value) (h : Heap) : Prop := v = some (.int 0) ∧ Keep h0 h [ix] ∧ Exa Z h ix "kombos/graph/IdIndex" ∧ Fld Z h ix "kombos/graph/IdIndex" "maxSize" "I" (.int 536870912) ∧ Fld Z h ix "kombos/graph/IdIndex" "ids" "[J" .null ∧ Fld Z h ix "kombos/graph/IdIndex" "first" "J" (.long 0) ∧ Fld Z h ix "kombos/graph/IdIndex" "direct" "[I" .null ∧ Fld Z h ix "kombos/graph/IdIndex" "slots" "[I" .null ∧ Fld Z h ix "kombos/graph/IdIndex" "size" "I" (.int 1)
set_option maxRecDepth 65536 in
set_option maxHeartbeats 40000000 in
theorem own_rm7_0 (l : Launch) (Z : State) (a0 : Array Value) (hw : ∀ d ∈ tables_1, d.before a0 Z = true) (ws : List Jvm.Cond) (r0 : Addr) (ix : Addr) (h0 : Heap) (n0 : Nat)  (Eb : Exa Z h0 r0 "kombos/graph/Graph$Builder") (Fb_index : Fld Z h0 r0 "kombos/graph/Graph$Builder" "index" "Lkombos/graph/IdIndex;" (.ref ix)) (Fb_keys : Fld Z h0 r0 "kombos/graph/Graph$Builder" "keys" "Lkombos/graph/KeyIndex;" .null) (Ex : Exa Z h0 ix "kombos/graph/IdIndex") (Fx_maxSize : Fld Z h0 ix "kombos/graph/IdIndex" "maxSize" "I" (.int 536870912)) (Fx_ids : Fld Z h0 ix "kombos/graph/IdIndex" "ids" "[J" .null) (Fx_first : Fld Z h0 ix "kombos/graph/IdIndex" "first" "J" (.long 0)) (Fx_direct : Fld Z h0 ix "kombos/graph/IdIndex" "direct" "[I" .null) (Fx_slots : Fld Z h0 ix "kombos/graph/IdIndex" "slots" "[I" .null) (Fx_size : Fld Z h0 ix "kombos/graph/IdIndex" "size" "I" (.int 0)) (gx : n0 ≤ ix) :
    own_Con l Z (⟨"kombos/graph/Graph$Builder", "vertexOf", "(J)I"⟩ : MethodName) prog_45_method_13_code 3 (some .int) ws ({ frames := 3, cells := 0, slots := 0, locals := 45 } : Room) #[(.ref r0), (.long 0)] h0 n0 (own_Q_own_rm7_0 Z ix h0 n0) := by
  refine own_body (plainFor_of_name own_pn1) ?_
  intro p e s m below meth c T0 hx hZ hby hml hown hnm hret hlk Y0
  replace hown : s.vm.findClass "kombos/graph/Graph$Builder" = some m.cls := hown
  replace hnm : meth.name = "vertexOf" := hnm
  rw [own_ef_own_rm7_0 m r0]
  show own_Ends _ _ _ _ (T0.setTop (mkF m 0 #[rv r0, .val (.long 0), .second] []))
  refine o_aloadN Y0 hx hby d7_0 rfl rfl ?_
  refine p_getF Y0 hx hZ hown (host := "") (Or.inl (own_w hw 56 rfl)) Via.refl Fb_keys hby rfl d7_1 (fun T205 Y206 => ?_)
  refine o_ifnonnullNo Y206 hx hby d7_4 rfl ?_
  refine o_aloadN Y206 hx hby d7_7 rfl rfl ?_
  refine p_getF Y206 hx hZ hown (host := "") (Or.inl (own_w hw 43 rfl)) Via.refl Fb_index hby rfl d7_8 (fun T207 Y208 => ?_)
  refine o_lloadN Y208 hx hby d7_11 rfl ?_
  refine own_callV Y208 hx hZ (y := (⟨"kombos/graph/IdIndex", "add", "(J)I"⟩ : MethodName)) (z := (⟨"kombos/graph/IdIndex", "add", "(J)I"⟩ : MethodName)) hown (own_w hw 58 rfl) (own_w hw 59 rfl) (notFace_of_selects (args := #[]) (mvT hZ (own_w hw 61 rfl))) (own_w hw 61 rfl) (own_w hw 60 rfl) (own_w hw 36 rfl) (own_w hw 62 rfl) (by decide) (a := ix) Ex (argsL := [(.long 0)]) (rest := []) (own_rm8_0 l Z a0 hw [] ix  h0 n0  Ex Fx_maxSize Fx_ids Fx_first Fx_direct Fx_slots Fx_size gx) (W := 0) (by decide) (by decide) (by decide) (by decide) rfl (by rw [hml]; rfl) (lenOf own_pd0 rfl) rfl (by show 2 * 0 + _ ≤ _; exact Nat.le_of_eq rfl) (hb hby d7_12) (fun T209 h211 v212 Y210 q213 => ?_)
  obtain ⟨rfl, K214, F215, F216, F217, F218, F219, F220, F221⟩ := q213
  show own_Ends _ _ _ _ (T209.setTop (mkF m 15 #[rv r0, .val (.long 0), .second] [(.int 0)]))
  have K222 : Keep h0 h211 [ix] := (Keep.refl h0 [ix]).trans K214 (allS (Or.inl (List.mem_of_getElem? (i := 0) rfl)) all0)
  refine own_retI Y210 hx hlk hret (hb hby d7_15) (by decide) (by decide) ?_
  exact ⟨rfl, K222, F215, F216, F217, F218, F219, F220, F221⟩
theorem own_ef_own_rm7_1 (m : MethodId) (r0 : Addr) : entryFrame m #[(.ref r0), (.long 1)] 3 = mkF m 0 #[rv r0, .val (.long 1), .second] [] := by first | (simp [entryFrame, mkF, argsToLocals, Value.category]; done) | rfl
def own_Q_own_rm7_1 (Z : State) (ix : Addr) (h0 : Heap) (n0 : Nat) (v : Option Value) (h : Heap) : Prop := v = some (.int 1) ∧ Keep h0 h [ix] ∧ Exa Z h ix "kombos/graph/IdIndex" ∧ Fld Z h ix "kombos/graph/IdIndex" "maxSize" "I" (.int 536870912) ∧ Fld Z h ix "kombos/graph/IdIndex" "ids" "[J" .null ∧ Fld Z h ix "kombos/graph/IdIndex" "first" "J" (.long 0) ∧ Fld Z h ix "kombos/graph/IdIndex" "direct" "[I" .null ∧ Fld Z h ix "kombos/graph/IdIndex" "slots" "[I" .null ∧ Fld Z h ix "kombos/graph/IdIndex" "size" "I" (.int 2)
set_option maxRecDepth 65536 in
set_option maxHeartbeats 40000000 in
theorem own_rm7_1 (l : Launch) (Z : State) (a0 : Array Value) (hw : ∀ d ∈ tables_1, d.before a0 Z = true) (ws : List Jvm.Cond) (r0 : Addr) (ix : Addr) (h0 : Heap) (n0 : Nat)  (Eb : Exa Z h0 r0 "kombos/graph/Graph$Builder") (Fb_index : Fld Z h0 r0 "kombos/graph/Graph$Builder" "index" "Lkombos/graph/IdIndex;" (.ref ix)) (Fb_keys : Fld Z h0 r0 "kombos/graph/Graph$Builder" "keys" "Lkombos/graph/KeyIndex;" .null) (Ex : Exa Z h0 ix "kombos/graph/IdIndex") (Fx_maxSize : Fld Z h0 ix "kombos/graph/IdIndex" "maxSize" "I" (.int 536870912)) (Fx_ids : Fld Z h0 ix "kombos/graph/IdIndex" "ids" "[J" .null) (Fx_first : Fld Z h0 ix "kombos/graph/IdIndex" "first" "J" (.long 0)) (Fx_direct : Fld Z h0 ix "kombos/graph/IdIndex" "direct" "[I" .null) (Fx_slots : Fld Z h0 ix "kombos/graph/IdIndex" "slots" "[I" .null) (Fx_size : Fld Z h0 ix "kombos/graph/IdIndex" "size" "I" (.int 1)) (gx : n0 ≤ ix) :
    own_Con l Z (⟨"kombos/graph/Graph$Builder", "vertexOf", "(J)I"⟩ : MethodName) prog_45_method_13_code 3 (some .int) ws ({ frames := 2, cells := 0, slots := 0, locals := 31 } : Room) #[(.ref r0), (.long 1)] h0 n0 (own_Q_own_rm7_1 Z ix h0 n0) := by
  refine own_body (plainFor_of_name own_pn1) ?_
  intro p e s m below meth c T0 hx hZ hby hml hown hnm hret hlk Y0
  replace hown : s.vm.findClass "kombos/graph/Graph$Builder" = some m.cls := hown
  replace hnm : meth.name = "vertexOf" := hnm
  rw [own_ef_own_rm7_1 m r0]
  show own_Ends _ _ _ _ (T0.setTop (mkF m 0 #[rv r0, .val (.long 1), .second] []))
  refine o_aloadN Y0 hx hby d7_0 rfl rfl ?_
  refine p_getF Y0 hx hZ hown (host := "") (Or.inl (own_w hw 56 rfl)) Via.refl Fb_keys hby rfl d7_1 (fun T223 Y224 => ?_)
  refine o_ifnonnullNo Y224 hx hby d7_4 rfl ?_
  refine o_aloadN Y224 hx hby d7_7 rfl rfl ?_
  refine p_getF Y224 hx hZ hown (host := "") (Or.inl (own_w hw 43 rfl)) Via.refl Fb_index hby rfl d7_8 (fun T225 Y226 => ?_)
  refine o_lloadN Y226 hx hby d7_11 rfl ?_
  refine own_callV Y226 hx hZ (y := (⟨"kombos/graph/IdIndex", "add", "(J)I"⟩ : MethodName)) (z := (⟨"kombos/graph/IdIndex", "add", "(J)I"⟩ : MethodName)) hown (own_w hw 58 rfl) (own_w hw 59 rfl) (notFace_of_selects (args := #[]) (mvT hZ (own_w hw 61 rfl))) (own_w hw 61 rfl) (own_w hw 60 rfl) (own_w hw 36 rfl) (own_w hw 62 rfl) (by decide) (a := ix) Ex (argsL := [(.long 1)]) (rest := []) (own_rm8_1 l Z a0 hw [] ix  h0 n0  Ex Fx_maxSize Fx_ids Fx_first Fx_direct Fx_slots Fx_size gx) (W := 0) (by decide) (by decide) (by decide) (by decide) rfl (by rw [hml]; rfl) (lenOf own_pd0 rfl) rfl (by show 2 * 0 + _ ≤ _; exact Nat.le_of_eq rfl) (hb hby d7_12) (fun T227 h229 v230 Y228 q231 => ?_)
  obtain ⟨rfl, K232, F233, F234, F235, F236, F237, F238, F239⟩ := q231
  show own_Ends _ _ _ _ (T227.setTop (mkF m 15 #[rv r0, .val (.long 1), .second] [(.int 1)]))
  have K240 : Keep h0 h229 [ix] := (Keep.refl h0 [ix]).trans K232 (allS (Or.inl (List.mem_of_getElem? (i := 0) rfl)) all0)
  refine own_retI Y228 hx hlk hret (hb hby d7_15) (by decide) (by decide) ?_
  exact ⟨rfl, K240, F233, F234, F235, F236, F237, F238, F239⟩
theorem own_ef_own_rm7_2 (m : MethodId) (r0 : Addr) : entryFrame m #[(.ref r0), (.long 2)] 3 = mkF m 0 #[rv r0, .val (.long 2), .second] [] := by first | (simp [entryFrame, mkF, argsToLocals, Value.category]; done) | rfl
def own_Q_own_rm7_2 (Z : State) (ix : Addr) (h0 : Heap) (n0 : Nat) (v : Option Value) (h : Heap) : Prop := v = some (.int 2) ∧ Keep h0 h [ix] ∧ Exa Z h ix "kombos/graph/IdIndex" ∧ Fld Z h ix "kombos/graph/IdIndex" "maxSize" "I" (.int 536870912) ∧ Fld Z h ix "kombos/graph/IdIndex" "ids" "[J" .null ∧ Fld Z h ix "kombos/graph/IdIndex" "first" "J" (.long 0) ∧ Fld Z h ix "kombos/graph/IdIndex" "direct" "[I" .null ∧ Fld Z h ix "kombos/graph/IdIndex" "slots" "[I" .null ∧ Fld Z h ix "kombos/graph/IdIndex" "size" "I" (.int 3)
set_option maxRecDepth 65536 in
set_option maxHeartbeats 40000000 in
theorem own_rm7_2 (l : Launch) (Z : State) (a0 : Array Value) (hw : ∀ d ∈ tables_1, d.before a0 Z = true) (ws : List Jvm.Cond) (r0 : Addr) (ix : Addr) (h0 : Heap) (n0 : Nat)  (Eb : Exa Z h0 r0 "kombos/graph/Graph$Builder") (Fb_index : Fld Z h0 r0 "kombos/graph/Graph$Builder" "index" "Lkombos/graph/IdIndex;" (.ref ix)) (Fb_keys : Fld Z h0 r0 "kombos/graph/Graph$Builder" "keys" "Lkombos/graph/KeyIndex;" .null) (Ex : Exa Z h0 ix "kombos/graph/IdIndex") (Fx_maxSize : Fld Z h0 ix "kombos/graph/IdIndex" "maxSize" "I" (.int 536870912)) (Fx_ids : Fld Z h0 ix "kombos/graph/IdIndex" "ids" "[J" .null) (Fx_first : Fld Z h0 ix "kombos/graph/IdIndex" "first" "J" (.long 0)) (Fx_direct : Fld Z h0 ix "kombos/graph/IdIndex" "direct" "[I" .null) (Fx_slots : Fld Z h0 ix "kombos/graph/IdIndex" "slots" "[I" .null) (Fx_size : Fld Z h0 ix "kombos/graph/IdIndex" "size" "I" (.int 2)) (gx : n0 ≤ ix) :
    own_Con l Z (⟨"kombos/graph/Graph$Builder", "vertexOf", "(J)I"⟩ : MethodName) prog_45_method_13_code 3 (some .int) ws ({ frames := 2, cells := 0, slots := 0, locals := 31 } : Room) #[(.ref r0), (.long 2)] h0 n0 (own_Q_own_rm7_2 Z ix h0 n0) := by
  refine own_body (plainFor_of_name own_pn1) ?_
  intro p e s m below meth c T0 hx hZ hby hml hown hnm hret hlk Y0
  replace hown : s.vm.findClass "kombos/graph/Graph$Builder" = some m.cls := hown
  replace hnm : meth.name = "vertexOf" := hnm
  rw [own_ef_own_rm7_2 m r0]
  show own_Ends _ _ _ _ (T0.setTop (mkF m 0 #[rv r0, .val (.long 2), .second] []))
  refine o_aloadN Y0 hx hby d7_0 rfl rfl ?_
  refine p_getF Y0 hx hZ hown (host := "") (Or.inl (own_w hw 56 rfl)) Via.refl Fb_keys hby rfl d7_1 (fun T241 Y242 => ?_)
  refine o_ifnonnullNo Y242 hx hby d7_4 rfl ?_
  refine o_aloadN Y242 hx hby d7_7 rfl rfl ?_
  refine p_getF Y242 hx hZ hown (host := "") (Or.inl (own_w hw 43 rfl)) Via.refl Fb_index hby rfl d7_8 (fun T243 Y244 => ?_)
  refine o_lloadN Y244 hx hby d7_11 rfl ?_
  refine own_callV Y244 hx hZ (y := (⟨"kombos/graph/IdIndex", "add", "(J)I"⟩ : MethodName)) (z := (⟨"kombos/graph/IdIndex", "add", "(J)I"⟩ : MethodName)) hown (own_w hw 58 rfl) (own_w hw 59 rfl) (notFace_of_selects (args := #[]) (mvT hZ (own_w hw 61 rfl))) (own_w hw 61 rfl) (own_w hw 60 rfl) (own_w hw 36 rfl) (own_w hw 62 rfl) (by decide) (a := ix) Ex (argsL := [(.long 2)]) (rest := []) (own_rm8_2 l Z a0 hw [] ix  h0 n0  Ex Fx_maxSize Fx_ids Fx_first Fx_direct Fx_slots Fx_size gx) (W := 0) (by decide) (by decide) (by decide) (by decide) rfl (by rw [hml]; rfl) (lenOf own_pd0 rfl) rfl (by show 2 * 0 + _ ≤ _; exact Nat.le_of_eq rfl) (hb hby d7_12) (fun T245 h247 v248 Y246 q249 => ?_)
  obtain ⟨rfl, K250, F251, F252, F253, F254, F255, F256, F257⟩ := q249
  show own_Ends _ _ _ _ (T245.setTop (mkF m 15 #[rv r0, .val (.long 2), .second] [(.int 2)]))
  have K258 : Keep h0 h247 [ix] := (Keep.refl h0 [ix]).trans K250 (allS (Or.inl (List.mem_of_getElem? (i := 0) rfl)) all0)
  refine own_retI Y246 hx hlk hret (hb hby d7_15) (by decide) (by decide) ?_
  exact ⟨rfl, K258, F251, F252, F253, F254, F255, F256, F257⟩
def bc6 : ByteArray := prog_45_method_5_code
theorem d6_0 : decode bc6 0 = .ok (.aload_n 0, 1) := by decide +kernel
theorem d6_1 : decode bc6 1 = .ok (.lload_n 1, 1) := by decide +kernel
theorem d6_2 : decode bc6 2 = .ok (.invokevirtual 91, 3) := by decide +kernel
theorem d6_5 : decode bc6 5 = .ok (.pop, 1) := by decide +kernel
theorem d6_6 : decode bc6 6 = .ok (.return_, 1) := by decide +kernel
theorem own_ef_own_rm6_0 (m : MethodId) (r0 : Addr) : entryFrame m #[(.ref r0), (.long 0)] 3 = mkF m 0 #[rv r0, .val (.long 0), .second] [] := by first | (simp [entryFrame, mkF, argsToLocals, Value.category]; done) | rfl
def own_Q_own_rm6_0 (Z : State) (ix : Addr) (h0 : Heap) (n0 : Nat) (v : Option Value) (h : Heap) : Prop := v = none ∧ Keep h0 h [ix] ∧ Exa Z h ix "kombos/graph/IdIndex" ∧ Fld Z h ix "kombos/graph/IdIndex" "maxSize" "I" (.int 536870912) ∧ Fld Z h ix "kombos/graph/IdIndex" "ids" "[J" .null ∧ Fld Z h ix "kombos/graph/IdIndex" "first" "J" (.long 0) ∧ Fld Z h ix "kombos/graph/IdIndex" "direct" "[I" .null ∧ Fld Z h ix "kombos/graph/IdIndex" "slots" "[I" .null ∧ Fld Z h ix "kombos/graph/IdIndex" "size" "I" (.int 1)
set_option maxRecDepth 65536 in
set_option maxHeartbeats 40000000 in
theorem own_rm6_0 (l : Launch) (Z : State) (a0 : Array Value) (hw : ∀ d ∈ tables_1, d.before a0 Z = true) (ws : List Jvm.Cond) (r0 : Addr) (ix : Addr) (h0 : Heap) (n0 : Nat)  (Eb : Exa Z h0 r0 "kombos/graph/Graph$Builder") (Fb_index : Fld Z h0 r0 "kombos/graph/Graph$Builder" "index" "Lkombos/graph/IdIndex;" (.ref ix)) (Fb_keys : Fld Z h0 r0 "kombos/graph/Graph$Builder" "keys" "Lkombos/graph/KeyIndex;" .null) (Ex : Exa Z h0 ix "kombos/graph/IdIndex") (Fx_maxSize : Fld Z h0 ix "kombos/graph/IdIndex" "maxSize" "I" (.int 536870912)) (Fx_ids : Fld Z h0 ix "kombos/graph/IdIndex" "ids" "[J" .null) (Fx_first : Fld Z h0 ix "kombos/graph/IdIndex" "first" "J" (.long 0)) (Fx_direct : Fld Z h0 ix "kombos/graph/IdIndex" "direct" "[I" .null) (Fx_slots : Fld Z h0 ix "kombos/graph/IdIndex" "slots" "[I" .null) (Fx_size : Fld Z h0 ix "kombos/graph/IdIndex" "size" "I" (.int 0)) (gx : n0 ≤ ix) :
    own_Con l Z (⟨"kombos/graph/Graph$Builder", "addVertex", "(J)V"⟩ : MethodName) prog_45_method_5_code 3 none ws ({ frames := 4, cells := 0, slots := 0, locals := 59 } : Room) #[(.ref r0), (.long 0)] h0 n0 (own_Q_own_rm6_0 Z ix h0 n0) := by
  refine own_body (plainFor_of_name own_pn1) ?_
  intro p e s m below meth c T0 hx hZ hby hml hown hnm hret hlk Y0
  replace hown : s.vm.findClass "kombos/graph/Graph$Builder" = some m.cls := hown
  replace hnm : meth.name = "addVertex" := hnm
  rw [own_ef_own_rm6_0 m r0]
  show own_Ends _ _ _ _ (T0.setTop (mkF m 0 #[rv r0, .val (.long 0), .second] []))
  refine o_aloadN Y0 hx hby d6_0 rfl rfl ?_
  refine o_lloadN Y0 hx hby d6_1 rfl ?_
  refine own_callP Y0 hx hZ (y := (⟨"kombos/graph/Graph$Builder", "vertexOf", "(J)I"⟩ : MethodName)) hown (own_w hw 52 rfl) (own_w hw 53 rfl) (own_w hw 1 rfl) (own_w hw 54 rfl) (own_w hw 2 rfl) (own_w hw 55 rfl) (by decide) (a := r0) Eb (argsL := [(.long 0)]) (rest := []) (own_rm7_0 l Z a0 hw [] r0 ix h0 n0  Eb Fb_index Fb_keys Ex Fx_maxSize Fx_ids Fx_first Fx_direct Fx_slots Fx_size gx) (W := 0) (by decide) (by decide) (by decide) (by decide) rfl (by rw [hml]; rfl) (lenOf own_pd0 rfl) rfl (by show 2 * 0 + _ ≤ _; exact Nat.le_of_eq rfl) (hb hby d6_2) (fun T259 h261 v262 Y260 q263 => ?_)
  obtain ⟨rfl, K264, F265, F266, F267, F268, F269, F270, F271⟩ := q263
  show own_Ends _ _ _ _ (T259.setTop (mkF m 5 #[rv r0, .val (.long 0), .second] [(.int 0)]))
  refine own_st (fun t_ => XS.pop (own_here Y260) hx rfl (hb hby d6_5) rfl rfl) ?_
  show own_Ends _ _ _ _ (T259.setTop (mkF m 6 #[rv r0, .val (.long 0), .second] []))
  have K272 : Keep h0 h261 [ix] := (Keep.refl h0 [ix]).trans K264 (allS (Or.inl (List.mem_of_getElem? (i := 0) rfl)) all0)
  refine own_retV Y260 hx hlk hret (hb hby d6_6) (by decide) (by decide) ?_
  exact ⟨rfl, K272, F265, F266, F267, F268, F269, F270, F271⟩
theorem own_ef_own_rm6_1 (m : MethodId) (r0 : Addr) : entryFrame m #[(.ref r0), (.long 1)] 3 = mkF m 0 #[rv r0, .val (.long 1), .second] [] := by first | (simp [entryFrame, mkF, argsToLocals, Value.category]; done) | rfl
def own_Q_own_rm6_1 (Z : State) (ix : Addr) (h0 : Heap) (n0 : Nat) (v : Option Value) (h : Heap) : Prop := v = none ∧ Keep h0 h [ix] ∧ Exa Z h ix "kombos/graph/IdIndex" ∧ Fld Z h ix "kombos/graph/IdIndex" "maxSize" "I" (.int 536870912) ∧ Fld Z h ix "kombos/graph/IdIndex" "ids" "[J" .null ∧ Fld Z h ix "kombos/graph/IdIndex" "first" "J" (.long 0) ∧ Fld Z h ix "kombos/graph/IdIndex" "direct" "[I" .null ∧ Fld Z h ix "kombos/graph/IdIndex" "slots" "[I" .null ∧ Fld Z h ix "kombos/graph/IdIndex" "size" "I" (.int 2)
set_option maxRecDepth 65536 in
set_option maxHeartbeats 40000000 in
theorem own_rm6_1 (l : Launch) (Z : State) (a0 : Array Value) (hw : ∀ d ∈ tables_1, d.before a0 Z = true) (ws : List Jvm.Cond) (r0 : Addr) (ix : Addr) (h0 : Heap) (n0 : Nat)  (Eb : Exa Z h0 r0 "kombos/graph/Graph$Builder") (Fb_index : Fld Z h0 r0 "kombos/graph/Graph$Builder" "index" "Lkombos/graph/IdIndex;" (.ref ix)) (Fb_keys : Fld Z h0 r0 "kombos/graph/Graph$Builder" "keys" "Lkombos/graph/KeyIndex;" .null) (Ex : Exa Z h0 ix "kombos/graph/IdIndex") (Fx_maxSize : Fld Z h0 ix "kombos/graph/IdIndex" "maxSize" "I" (.int 536870912)) (Fx_ids : Fld Z h0 ix "kombos/graph/IdIndex" "ids" "[J" .null) (Fx_first : Fld Z h0 ix "kombos/graph/IdIndex" "first" "J" (.long 0)) (Fx_direct : Fld Z h0 ix "kombos/graph/IdIndex" "direct" "[I" .null) (Fx_slots : Fld Z h0 ix "kombos/graph/IdIndex" "slots" "[I" .null) (Fx_size : Fld Z h0 ix "kombos/graph/IdIndex" "size" "I" (.int 1)) (gx : n0 ≤ ix) :
    own_Con l Z (⟨"kombos/graph/Graph$Builder", "addVertex", "(J)V"⟩ : MethodName) prog_45_method_5_code 3 none ws ({ frames := 3, cells := 0, slots := 0, locals := 45 } : Room) #[(.ref r0), (.long 1)] h0 n0 (own_Q_own_rm6_1 Z ix h0 n0) := by
  refine own_body (plainFor_of_name own_pn1) ?_
  intro p e s m below meth c T0 hx hZ hby hml hown hnm hret hlk Y0
  replace hown : s.vm.findClass "kombos/graph/Graph$Builder" = some m.cls := hown
  replace hnm : meth.name = "addVertex" := hnm
  rw [own_ef_own_rm6_1 m r0]
  show own_Ends _ _ _ _ (T0.setTop (mkF m 0 #[rv r0, .val (.long 1), .second] []))
  refine o_aloadN Y0 hx hby d6_0 rfl rfl ?_
  refine o_lloadN Y0 hx hby d6_1 rfl ?_
  refine own_callP Y0 hx hZ (y := (⟨"kombos/graph/Graph$Builder", "vertexOf", "(J)I"⟩ : MethodName)) hown (own_w hw 52 rfl) (own_w hw 53 rfl) (own_w hw 1 rfl) (own_w hw 54 rfl) (own_w hw 2 rfl) (own_w hw 55 rfl) (by decide) (a := r0) Eb (argsL := [(.long 1)]) (rest := []) (own_rm7_1 l Z a0 hw [] r0 ix h0 n0  Eb Fb_index Fb_keys Ex Fx_maxSize Fx_ids Fx_first Fx_direct Fx_slots Fx_size gx) (W := 0) (by decide) (by decide) (by decide) (by decide) rfl (by rw [hml]; rfl) (lenOf own_pd0 rfl) rfl (by show 2 * 0 + _ ≤ _; exact Nat.le_of_eq rfl) (hb hby d6_2) (fun T273 h275 v276 Y274 q277 => ?_)
  obtain ⟨rfl, K278, F279, F280, F281, F282, F283, F284, F285⟩ := q277
  show own_Ends _ _ _ _ (T273.setTop (mkF m 5 #[rv r0, .val (.long 1), .second] [(.int 1)]))
  refine own_st (fun t_ => XS.pop (own_here Y274) hx rfl (hb hby d6_5) rfl rfl) ?_
  show own_Ends _ _ _ _ (T273.setTop (mkF m 6 #[rv r0, .val (.long 1), .second] []))
  have K286 : Keep h0 h275 [ix] := (Keep.refl h0 [ix]).trans K278 (allS (Or.inl (List.mem_of_getElem? (i := 0) rfl)) all0)
  refine own_retV Y274 hx hlk hret (hb hby d6_6) (by decide) (by decide) ?_
  exact ⟨rfl, K286, F279, F280, F281, F282, F283, F284, F285⟩
theorem own_ef_own_rm6_2 (m : MethodId) (r0 : Addr) : entryFrame m #[(.ref r0), (.long 2)] 3 = mkF m 0 #[rv r0, .val (.long 2), .second] [] := by first | (simp [entryFrame, mkF, argsToLocals, Value.category]; done) | rfl
def own_Q_own_rm6_2 (Z : State) (ix : Addr) (h0 : Heap) (n0 : Nat) (v : Option Value) (h : Heap) : Prop := v = none ∧ Keep h0 h [ix] ∧ Exa Z h ix "kombos/graph/IdIndex" ∧ Fld Z h ix "kombos/graph/IdIndex" "maxSize" "I" (.int 536870912) ∧ Fld Z h ix "kombos/graph/IdIndex" "ids" "[J" .null ∧ Fld Z h ix "kombos/graph/IdIndex" "first" "J" (.long 0) ∧ Fld Z h ix "kombos/graph/IdIndex" "direct" "[I" .null ∧ Fld Z h ix "kombos/graph/IdIndex" "slots" "[I" .null ∧ Fld Z h ix "kombos/graph/IdIndex" "size" "I" (.int 3)
set_option maxRecDepth 65536 in
set_option maxHeartbeats 40000000 in
theorem own_rm6_2 (l : Launch) (Z : State) (a0 : Array Value) (hw : ∀ d ∈ tables_1, d.before a0 Z = true) (ws : List Jvm.Cond) (r0 : Addr) (ix : Addr) (h0 : Heap) (n0 : Nat)  (Eb : Exa Z h0 r0 "kombos/graph/Graph$Builder") (Fb_index : Fld Z h0 r0 "kombos/graph/Graph$Builder" "index" "Lkombos/graph/IdIndex;" (.ref ix)) (Fb_keys : Fld Z h0 r0 "kombos/graph/Graph$Builder" "keys" "Lkombos/graph/KeyIndex;" .null) (Ex : Exa Z h0 ix "kombos/graph/IdIndex") (Fx_maxSize : Fld Z h0 ix "kombos/graph/IdIndex" "maxSize" "I" (.int 536870912)) (Fx_ids : Fld Z h0 ix "kombos/graph/IdIndex" "ids" "[J" .null) (Fx_first : Fld Z h0 ix "kombos/graph/IdIndex" "first" "J" (.long 0)) (Fx_direct : Fld Z h0 ix "kombos/graph/IdIndex" "direct" "[I" .null) (Fx_slots : Fld Z h0 ix "kombos/graph/IdIndex" "slots" "[I" .null) (Fx_size : Fld Z h0 ix "kombos/graph/IdIndex" "size" "I" (.int 2)) (gx : n0 ≤ ix) :
    own_Con l Z (⟨"kombos/graph/Graph$Builder", "addVertex", "(J)V"⟩ : MethodName) prog_45_method_5_code 3 none ws ({ frames := 3, cells := 0, slots := 0, locals := 45 } : Room) #[(.ref r0), (.long 2)] h0 n0 (own_Q_own_rm6_2 Z ix h0 n0) := by
  refine own_body (plainFor_of_name own_pn1) ?_
  intro p e s m below meth c T0 hx hZ hby hml hown hnm hret hlk Y0
  replace hown : s.vm.findClass "kombos/graph/Graph$Builder" = some m.cls := hown
  replace hnm : meth.name = "addVertex" := hnm
  rw [own_ef_own_rm6_2 m r0]
  show own_Ends _ _ _ _ (T0.setTop (mkF m 0 #[rv r0, .val (.long 2), .second] []))
  refine o_aloadN Y0 hx hby d6_0 rfl rfl ?_
  refine o_lloadN Y0 hx hby d6_1 rfl ?_
  refine own_callP Y0 hx hZ (y := (⟨"kombos/graph/Graph$Builder", "vertexOf", "(J)I"⟩ : MethodName)) hown (own_w hw 52 rfl) (own_w hw 53 rfl) (own_w hw 1 rfl) (own_w hw 54 rfl) (own_w hw 2 rfl) (own_w hw 55 rfl) (by decide) (a := r0) Eb (argsL := [(.long 2)]) (rest := []) (own_rm7_2 l Z a0 hw [] r0 ix h0 n0  Eb Fb_index Fb_keys Ex Fx_maxSize Fx_ids Fx_first Fx_direct Fx_slots Fx_size gx) (W := 0) (by decide) (by decide) (by decide) (by decide) rfl (by rw [hml]; rfl) (lenOf own_pd0 rfl) rfl (by show 2 * 0 + _ ≤ _; exact Nat.le_of_eq rfl) (hb hby d6_2) (fun T287 h289 v290 Y288 q291 => ?_)
  obtain ⟨rfl, K292, F293, F294, F295, F296, F297, F298, F299⟩ := q291
  show own_Ends _ _ _ _ (T287.setTop (mkF m 5 #[rv r0, .val (.long 2), .second] [(.int 2)]))
  refine own_st (fun t_ => XS.pop (own_here Y288) hx rfl (hb hby d6_5) rfl rfl) ?_
  show own_Ends _ _ _ _ (T287.setTop (mkF m 6 #[rv r0, .val (.long 2), .second] []))
  have K300 : Keep h0 h289 [ix] := (Keep.refl h0 [ix]).trans K292 (allS (Or.inl (List.mem_of_getElem? (i := 0) rfl)) all0)
  refine own_retV Y288 hx hlk hret (hb hby d6_6) (by decide) (by decide) ?_
  exact ⟨rfl, K300, F293, F294, F295, F296, F297, F298, F299⟩
theorem own_ef_own_rm7_f (m : MethodId) (r0 : Addr) (x1 : Int64) : entryFrame m #[(.ref r0), (.long x1)] 3 = mkF m 0 #[rv r0, .val (.long x1), .second] [] := by first | (simp [entryFrame, mkF, argsToLocals, Value.category]; done) | rfl
def own_Q_own_rm7_f (Z : State) (x1 : Int64) (h0 : Heap) (n0 : Nat) (v : Option Value) (h : Heap) : Prop := v = some (.int x1.toInt32) ∧ h0 = h
set_option maxRecDepth 65536 in
set_option maxHeartbeats 40000000 in
theorem own_rm7_f (l : Launch) (Z : State) (a0 : Array Value) (hw : ∀ d ∈ tables_1, d.before a0 Z = true) (ws : List Jvm.Cond) (r0 : Addr) (x1 : Int64) (ix : Addr) (h0 : Heap) (n0 : Nat)  (Eb : Exa Z h0 r0 "kombos/graph/Graph$Builder") (Fb_index : Fld Z h0 r0 "kombos/graph/Graph$Builder" "index" "Lkombos/graph/IdIndex;" (.ref ix)) (Fb_keys : Fld Z h0 r0 "kombos/graph/Graph$Builder" "keys" "Lkombos/graph/KeyIndex;" .null) (Ex : Exa Z h0 ix "kombos/graph/IdIndex") (Fx_maxSize : Fld Z h0 ix "kombos/graph/IdIndex" "maxSize" "I" (.int 536870912)) (Fx_ids : Fld Z h0 ix "kombos/graph/IdIndex" "ids" "[J" .null) (Fx_first : Fld Z h0 ix "kombos/graph/IdIndex" "first" "J" (.long 0)) (Fx_direct : Fld Z h0 ix "kombos/graph/IdIndex" "direct" "[I" .null) (Fx_slots : Fld Z h0 ix "kombos/graph/IdIndex" "slots" "[I" .null) (Fx_size : Fld Z h0 ix "kombos/graph/IdIndex" "size" "I" (.int 3)) (hx0 : 0 ≤ x1.toInt) (hx3 : x1.toInt < 3) :
    own_Con l Z (⟨"kombos/graph/Graph$Builder", "vertexOf", "(J)I"⟩ : MethodName) prog_45_method_13_code 3 (some .int) ws ({ frames := 2, cells := 0, slots := 0, locals := 31 } : Room) #[(.ref r0), (.long x1)] h0 n0 (own_Q_own_rm7_f Z x1 h0 n0) := by
  refine own_body (plainFor_of_name own_pn1) ?_
  intro p e s m below meth c T0 hx hZ hby hml hown hnm hret hlk Y0
  replace hown : s.vm.findClass "kombos/graph/Graph$Builder" = some m.cls := hown
  replace hnm : meth.name = "vertexOf" := hnm
  rw [own_ef_own_rm7_f m r0 x1]
  show own_Ends _ _ _ _ (T0.setTop (mkF m 0 #[rv r0, .val (.long x1), .second] []))
  refine o_aloadN Y0 hx hby d7_0 rfl rfl ?_
  refine p_getF Y0 hx hZ hown (host := "") (Or.inl (own_w hw 56 rfl)) Via.refl Fb_keys hby rfl d7_1 (fun T301 Y302 => ?_)
  refine o_ifnonnullNo Y302 hx hby d7_4 rfl ?_
  refine o_aloadN Y302 hx hby d7_7 rfl rfl ?_
  refine p_getF Y302 hx hZ hown (host := "") (Or.inl (own_w hw 43 rfl)) Via.refl Fb_index hby rfl d7_8 (fun T303 Y304 => ?_)
  refine o_lloadN Y304 hx hby d7_11 rfl ?_
  refine own_callV Y304 hx hZ (y := (⟨"kombos/graph/IdIndex", "add", "(J)I"⟩ : MethodName)) (z := (⟨"kombos/graph/IdIndex", "add", "(J)I"⟩ : MethodName)) hown (own_w hw 58 rfl) (own_w hw 59 rfl) (notFace_of_selects (args := #[]) (mvT hZ (own_w hw 61 rfl))) (own_w hw 61 rfl) (own_w hw 60 rfl) (own_w hw 36 rfl) (own_w hw 62 rfl) (by decide) (a := ix) Ex (argsL := [(.long x1)]) (rest := []) (own_rm8_f l Z a0 hw [] ix x1  h0 n0  Ex Fx_maxSize Fx_ids Fx_first Fx_direct Fx_slots Fx_size hx0 hx3) (W := 0) (by decide) (by decide) (by decide) (by decide) rfl (by rw [hml]; rfl) (lenOf own_pd0 rfl) rfl (by show 2 * 0 + _ ≤ _; exact Nat.le_of_eq rfl) (hb hby d7_12) (fun T305 h307 v308 Y306 q309 => ?_)
  obtain ⟨rfl, rfl⟩ := q309
  show own_Ends _ _ _ _ (T305.setTop (mkF m 15 #[rv r0, .val (.long x1), .second] [(.int (x1.toInt32))]))
  refine own_retI Y306 hx hlk hret (hb hby d7_15) (by decide) (by decide) ?_
  exact ⟨rfl, rfl⟩
theorem own_pn2 : plainName "java/util/List" = true := by first | (simp [plainName, overriddenIn]; done) | decide +kernel
def bc4 : ByteArray := jdk_40_method_36_code
theorem d4_0 : decode bc4 0 = .ok (.getstatic 90, 3) := by decide +kernel
theorem d4_3 : decode bc4 3 = .ok (.areturn, 1) := by decide +kernel
theorem own_ef_own_rm4 (m : MethodId)  : entryFrame m #[] 0 = mkF m 0 #[] [] := by first | (simp [entryFrame, mkF, argsToLocals, Value.category]; done) | rfl
def own_Q_own_rm4 (Z : State) (el : Addr) (h0 : Heap) (n0 : Nat) (v : Option Value) (h : Heap) : Prop := v = some (.ref el) ∧ h0 = h
set_option maxRecDepth 65536 in
set_option maxHeartbeats 40000000 in
theorem own_rm4 (l : Launch) (Z : State) (a0 : Array Value) (hw : ∀ d ∈ tables_1, d.before a0 Z = true) (ws : List Jvm.Cond)  (el : Addr) (h0 : Heap) (n0 : Nat)  (S : Sta Z h0 "java/util/ImmutableCollections" "EMPTY_LIST" "Ljava/util/ImmutableCollections$ListN;" (.ref el)) :
    own_Con l Z (⟨"java/util/List", "of", "()Ljava/util/List;"⟩ : MethodName) jdk_40_method_36_code 0 (some (.object "java/util/List")) ws ({ frames := 0, cells := 0, slots := 0, locals := 0 } : Room) #[] h0 n0 (own_Q_own_rm4 Z el h0 n0) := by
  refine own_body (plainFor_of_name own_pn2) ?_
  intro p e s m below meth c T0 hx hZ hby hml hown hnm hret hlk Y0
  replace hown : s.vm.findClass "java/util/List" = some m.cls := hown
  replace hnm : meth.name = "of" := hnm
  rw [own_ef_own_rm4 m ]
  show own_Ends _ _ _ _ (T0.setTop (mkF m 0 #[] []))
  refine own_getS Y0 hx hZ hown (host := "") (Or.inl (own_w hw 24 rfl)) Via.refl S rfl (hb hby d4_0) (fun T310 Y311 => ?_)
  show own_Ends _ _ _ _ (T310.setTop (mkF m 3 #[] [(.ref el)]))
  refine own_retA Y311 hx hlk hret rfl rfl rfl (hb hby d4_3) (by decide) (by decide) ?_
  exact ⟨rfl, rfl⟩
theorem own_f4 : parseFieldDescriptor "[[I" = some (.array (.array .int)) := by decide
theorem own_pd1 : parseMethodDescriptor "()Ljava/util/List;" = some ⟨[], some (.object "java/util/List")⟩ := by decide +kernel
theorem own_f5 : parseFieldDescriptor "Ljava/util/List;" = some (.object "java/util/List") := by decide
theorem own_f6 : parseFieldDescriptor "Z" = some .boolean := by decide
theorem own_pd2 : parseMethodDescriptor "(I)V" = some ⟨[.int], none⟩ := by decide +kernel
theorem own_f7 : parseFieldDescriptor "Lkombos/graph/IdIndex;" = some (.object "kombos/graph/IdIndex") := by decide
theorem own_f8 : parseFieldDescriptor "Lkombos/graph/KeyIndex;" = some (.object "kombos/graph/KeyIndex") := by decide
theorem own_f9 : parseFieldDescriptor "[[J" = some (.array (.array .long)) := by decide
def bc2 : ByteArray := prog_45_method_2_code
theorem d2_0 : decode bc2 0 = .ok (.aload_n 0, 1) := by decide +kernel
theorem d2_1 : decode bc2 1 = .ok (.invokespecial 13, 3) := by decide +kernel
theorem d2_4 : decode bc2 4 = .ok (.aload_n 0, 1) := by decide +kernel
theorem d2_5 : decode bc2 5 = .ok (.bipush 16, 2) := by decide +kernel
theorem d2_7 : decode bc2 7 = .ok (.anewarray 18, 3) := by decide +kernel
theorem d2_10 : decode bc2 10 = .ok (.putfield 20, 3) := by decide +kernel
theorem d2_13 : decode bc2 13 = .ok (.aload_n 0, 1) := by decide +kernel
theorem d2_14 : decode bc2 14 = .ok (.bipush 16, 2) := by decide +kernel
theorem d2_16 : decode bc2 16 = .ok (.anewarray 18, 3) := by decide +kernel
theorem d2_19 : decode bc2 19 = .ok (.putfield 24, 3) := by decide +kernel
theorem d2_22 : decode bc2 22 = .ok (.aload_n 0, 1) := by decide +kernel
theorem d2_23 : decode bc2 23 = .ok (.invokestatic 27, 3) := by decide +kernel
theorem d2_26 : decode bc2 26 = .ok (.putfield 33, 3) := by decide +kernel
theorem d2_29 : decode bc2 29 = .ok (.aload_n 0, 1) := by decide +kernel
theorem d2_30 : decode bc2 30 = .ok (.invokestatic 27, 3) := by decide +kernel
theorem d2_33 : decode bc2 33 = .ok (.putfield 37, 3) := by decide +kernel
theorem d2_36 : decode bc2 36 = .ok (.aload_n 0, 1) := by decide +kernel
theorem d2_37 : decode bc2 37 = .ok (.iload_n 1, 1) := by decide +kernel
theorem d2_38 : decode bc2 38 = .ok (.putfield 40, 3) := by decide +kernel
theorem d2_41 : decode bc2 41 = .ok (.aload_n 0, 1) := by decide +kernel
theorem d2_42 : decode bc2 42 = .ok (.iload_n 2, 1) := by decide +kernel
theorem d2_43 : decode bc2 43 = .ok (.putfield 44, 3) := by decide +kernel
theorem d2_46 : decode bc2 46 = .ok (.aload_n 0, 1) := by decide +kernel
theorem d2_47 : decode bc2 47 = .ok (.new 48, 3) := by decide +kernel
theorem d2_50 : decode bc2 50 = .ok (.dup, 1) := by decide +kernel
theorem d2_51 : decode bc2 51 = .ok (.iload_n 2, 1) := by decide +kernel
theorem d2_52 : decode bc2 52 = .ok (.invokespecial 50, 3) := by decide +kernel
theorem d2_55 : decode bc2 55 = .ok (.putfield 53, 3) := by decide +kernel
theorem d2_58 : decode bc2 58 = .ok (.aload_n 0, 1) := by decide +kernel
theorem d2_59 : decode bc2 59 = .ok (.iload_n 1, 1) := by decide +kernel
theorem d2_60 : decode bc2 60 = .ok (.ifCond .eq 7, 3) := by decide +kernel
theorem d2_67 : decode bc2 67 = .ok (.iload_n 3, 1) := by decide +kernel
theorem d2_68 : decode bc2 68 = .ok (.iconst 2, 1) := by decide +kernel
theorem d2_69 : decode bc2 69 = .ok (.idiv, 1) := by decide +kernel
theorem d2_70 : decode bc2 70 = .ok (.putfield 57, 3) := by decide +kernel
theorem d2_73 : decode bc2 73 = .ok (.return_, 1) := by decide +kernel
theorem own_ef_own_rm2 (m : MethodId) (r0 : Addr) : entryFrame m #[(.ref r0), (.int 0), (.int 536870912), (.int 2147483639)] 4 = mkF m 0 #[rv r0, iv 0, iv 536870912, iv 2147483639] [] := by first | (simp [entryFrame, mkF, argsToLocals, Value.category]; done) | rfl
def own_Q_own_rm2 (Z : State) (r0 el : Addr) (h0 : Heap) (n0 : Nat) (v : Option Value) (h : Heap) : Prop := ∃ s t ix : Addr, v = none ∧ Keep h0 h [r0] ∧ Exa Z h r0 "kombos/graph/Graph$Builder" ∧ Fld Z h r0 "kombos/graph/Graph$Builder" "sources" "[[I" (.ref s) ∧ Fld Z h r0 "kombos/graph/Graph$Builder" "targets" "[[I" (.ref t) ∧ Fld Z h r0 "kombos/graph/Graph$Builder" "vertexColumns" "Ljava/util/List;" (.ref el) ∧ Fld Z h r0 "kombos/graph/Graph$Builder" "edgeColumns" "Ljava/util/List;" (.ref el) ∧ Fld Z h r0 "kombos/graph/Graph$Builder" "directed" "Z" (.int 0) ∧ Fld Z h r0 "kombos/graph/Graph$Builder" "maxVertices" "I" (.int 536870912) ∧ Fld Z h r0 "kombos/graph/Graph$Builder" "index" "Lkombos/graph/IdIndex;" (.ref ix) ∧ Fld Z h r0 "kombos/graph/Graph$Builder" "maxEdges" "I" (.int 1073741819) ∧ Fld Z h r0 "kombos/graph/Graph$Builder" "keys" "Lkombos/graph/KeyIndex;" .null ∧ Fld Z h r0 "kombos/graph/Graph$Builder" "edgeCount" "I" (.int 0) ∧ Fld Z h r0 "kombos/graph/Graph$Builder" "weights" "[[J" .null ∧ Fld Z h r0 "kombos/graph/Graph$Builder" "decimal" "Z" (.int 0) ∧ Exa Z h s "[[I" ∧ own_A Z h s (.array .int) (List.replicate 16 .null) ∧ Exa Z h t "[[I" ∧ own_A Z h t (.array .int) (List.replicate 16 .null) ∧ Exa Z h ix "kombos/graph/IdIndex" ∧ Fld Z h ix "kombos/graph/IdIndex" "maxSize" "I" (.int 536870912) ∧ Fld Z h ix "kombos/graph/IdIndex" "ids" "[J" .null ∧ Fld Z h ix "kombos/graph/IdIndex" "first" "J" (.long 0) ∧ Fld Z h ix "kombos/graph/IdIndex" "direct" "[I" .null ∧ Fld Z h ix "kombos/graph/IdIndex" "slots" "[I" .null ∧ Fld Z h ix "kombos/graph/IdIndex" "size" "I" (.int 0) ∧ h0.size ≤ s ∧ h0.size ≤ t ∧ h0.size ≤ ix ∧ s ≠ t ∧ s ≠ ix ∧ t ≠ ix
set_option maxRecDepth 65536 in
set_option maxHeartbeats 40000000 in
theorem own_rm2 (l : Launch) (Z : State) (a0 : Array Value) (hw : ∀ d ∈ tables_1, d.before a0 Z = true) (ws : List Jvm.Cond) (r0 : Addr) (el : Addr) (h0 : Heap) (n0 : Nat) (Z0 : n0 ≤ h0.size) (Eb : Exa Z h0 r0 "kombos/graph/Graph$Builder") (Fb_sources : Fld Z h0 r0 "kombos/graph/Graph$Builder" "sources" "[[I" .null) (Fb_targets : Fld Z h0 r0 "kombos/graph/Graph$Builder" "targets" "[[I" .null) (Fb_vertexColumns : Fld Z h0 r0 "kombos/graph/Graph$Builder" "vertexColumns" "Ljava/util/List;" .null) (Fb_edgeColumns : Fld Z h0 r0 "kombos/graph/Graph$Builder" "edgeColumns" "Ljava/util/List;" .null) (Fb_directed : Fld Z h0 r0 "kombos/graph/Graph$Builder" "directed" "Z" (.int 0)) (Fb_maxVertices : Fld Z h0 r0 "kombos/graph/Graph$Builder" "maxVertices" "I" (.int 0)) (Fb_index : Fld Z h0 r0 "kombos/graph/Graph$Builder" "index" "Lkombos/graph/IdIndex;" .null) (Fb_maxEdges : Fld Z h0 r0 "kombos/graph/Graph$Builder" "maxEdges" "I" (.int 0)) (Fb_keys : Fld Z h0 r0 "kombos/graph/Graph$Builder" "keys" "Lkombos/graph/KeyIndex;" .null) (Fb_edgeCount : Fld Z h0 r0 "kombos/graph/Graph$Builder" "edgeCount" "I" (.int 0)) (Fb_weights : Fld Z h0 r0 "kombos/graph/Graph$Builder" "weights" "[[J" .null) (Fb_decimal : Fld Z h0 r0 "kombos/graph/Graph$Builder" "decimal" "Z" (.int 0)) (S : Sta Z h0 "java/util/ImmutableCollections" "EMPTY_LIST" "Ljava/util/ImmutableCollections$ListN;" (.ref el)) (g : n0 ≤ r0) :
    own_Con l Z (⟨"kombos/graph/Graph$Builder", "<init>", "(ZII)V"⟩ : MethodName) prog_45_method_2_code 4 none ws ({ frames := 2, cells := 3, slots := 40, locals := 27 } : Room) #[(.ref r0), (.int 0), (.int 536870912), (.int 2147483639)] h0 n0 (own_Q_own_rm2 Z r0 el h0 n0) := by
  refine own_body (plainFor_of_name own_pn1) ?_
  intro p e s m below meth c T0 hx hZ hby hml hown hnm hret hlk Y0
  replace hown : s.vm.findClass "kombos/graph/Graph$Builder" = some m.cls := hown
  replace hnm : meth.name = "<init>" := hnm
  rw [own_ef_own_rm2 m r0]
  show own_Ends _ _ _ _ (T0.setTop (mkF m 0 #[rv r0, iv 0, iv 536870912, iv 2147483639] []))
  refine o_aloadN Y0 hx hby d2_0 rfl rfl ?_
  refine own_initO Y0 hx hZ hown (own_w hw 11 rfl) (own_w hw 12 rfl) (own_w hw 13 rfl) rfl (by rw [hml]; rfl) rfl (hb hby d2_1) (by decide) (W := 0) (by show 2 * 0 + _ ≤ _; exact Nat.le_of_eq rfl) (by decide) (fun T312 Y313 => ?_)
  show own_Ends _ _ _ _ (T312.setTop (mkF m 4 #[rv r0, iv 0, iv 536870912, iv 2147483639] []))
  refine o_aloadN Y313 hx hby d2_4 rfl rfl ?_
  refine o_bipush Y313 hx hby d2_5 (x := 16) rfl ?_
  refine own_newRAE Y313 hx hZ hown (own_w hw 14 rfl) (own_w hw 15 rfl) rfl (hb hby d2_7) rfl (by decide) (nz := 16) (cap := 16) (by decide) (by decide) (by decide) (by decide) (by decide) (fun T314 h316 b319 eb320 Y315 E317 A318 X321 => ?_)
  have ne322 : r0 ≠ b319 := Nat.ne_of_lt (by rw [eb320]; exact Eb.lt)
  have g323 : n0 ≤ b319 := by rw [eb320]; exact Z0
  show own_Ends _ _ _ _ (T314.setTop (mkF m 10 #[rv r0, iv 0, iv 536870912, iv 2147483639] [(.ref b319), (.ref r0)]))
  have f324 := Eb.ext E317
  have f325 := Fb_sources.ext E317
  refine p_putF Y315 hx hZ hown (host := "") (Or.inl (own_w hw 16 rfl)) Via.refl f325 f324 (Or.inl (own_w hw 17 rfl)) (own_w hw 1 rfl) g (ty := (.array (.array .int))) (by decide) rfl rfl hby rfl d2_10 (fun T326 h328 Y327 W329 F330 => ?_)
  refine o_aloadN Y327 hx hby d2_13 rfl rfl ?_
  refine o_bipush Y327 hx hby d2_14 (x := 16) rfl ?_
  refine own_newRAE Y327 hx hZ hown (own_w hw 14 rfl) (own_w hw 15 rfl) rfl (hb hby d2_16) rfl (by decide) (nz := 16) (cap := 16) (by decide) (by decide) (by decide) (by decide) (by decide) (fun T331 h333 b336 eb337 Y332 E334 A335 X338 => ?_)
  have f339 := f324.wr W329
  have ne340 : r0 ≠ b336 := Nat.ne_of_lt (by rw [eb337]; exact f339.lt)
  have f341 := A318.other W329 (Ne.symm ne322)
  have ne342 : b319 ≠ b336 := Nat.ne_of_lt (by rw [eb337]; exact f341.lt)
  have z344 : n0 ≤ h316.size := Nat.le_trans Z0 E317.1
  have z345 : n0 ≤ h328.size := Nat.le_trans z344 (Nat.le_of_eq W329.size.symm)
  have g343 : n0 ≤ b336 := by rw [eb337]; exact z345
  show own_Ends _ _ _ _ (T331.setTop (mkF m 19 #[rv r0, iv 0, iv 536870912, iv 2147483639] [(.ref b336), (.ref r0)]))
  have f346 := f339.ext E334
  have f347 := Fb_targets.ext E317
  have f348 := own_sn f347 W329 (own_wl hw 19 rfl) (own_wl hw 17 rfl) (by decide) own_f4 own_f4
  have f349 := f348.ext E334
  refine p_putF Y332 hx hZ hown (host := "") (Or.inl (own_w hw 18 rfl)) Via.refl f349 f346 (Or.inl (own_w hw 19 rfl)) (own_w hw 1 rfl) g (ty := (.array (.array .int))) (by decide) rfl rfl hby rfl d2_19 (fun T350 h352 Y351 W353 F354 => ?_)
  refine o_aloadN Y351 hx hby d2_22 rfl rfl ?_
  have f355 := S.ext E317
  have f356 := f355.wr W329
  have f357 := f356.ext E334
  have f358 := f357.wr W353
  refine own_callS Y351 hx hZ (y := (⟨"java/util/List", "of", "()Ljava/util/List;"⟩ : MethodName)) hown (own_w hw 20 rfl) (own_w hw 21 rfl) (own_w hw 22 rfl) (own_w hw 23 rfl) (by decide) (argsL := []) (rest := [(.ref r0)]) (own_rm4 l Z a0 hw []  el h352 n0  f358) (W := 1) (by decide) (by decide) (by decide) (by decide) rfl (by rw [hml]; rfl) (lenOf own_pd1 rfl) rfl (by show 2 * 0 + _ ≤ _; exact Nat.le_of_eq rfl) (hb hby d2_23) (fun T359 h361 v362 Y360 q363 => ?_)
  obtain ⟨rfl, rfl⟩ := q363
  show own_Ends _ _ _ _ (T359.setTop (mkF m 26 #[rv r0, iv 0, iv 536870912, iv 2147483639] [(.ref el), (.ref r0)]))
  have f364 := f346.wr W353
  have f365 := Fb_vertexColumns.ext E317
  have f366 := own_sn f365 W329 (own_wl hw 27 rfl) (own_wl hw 17 rfl) (by decide) own_f5 own_f4
  have f367 := f366.ext E334
  have f368 := own_sn f367 W353 (own_wl hw 27 rfl) (own_wl hw 19 rfl) (by decide) own_f5 own_f4
  refine p_putF Y360 hx hZ hown (host := "") (Or.inl (own_w hw 26 rfl)) Via.refl f368 f364 (Or.inl (own_w hw 27 rfl)) (own_w hw 1 rfl) g (ty := (.object "java/util/List")) (by decide) rfl rfl hby rfl d2_26 (fun T369 h371 Y370 W372 F373 => ?_)
  refine o_aloadN Y370 hx hby d2_29 rfl rfl ?_
  have f374 := f358.wr W372
  refine own_callS Y370 hx hZ (y := (⟨"java/util/List", "of", "()Ljava/util/List;"⟩ : MethodName)) hown (own_w hw 20 rfl) (own_w hw 21 rfl) (own_w hw 22 rfl) (own_w hw 23 rfl) (by decide) (argsL := []) (rest := [(.ref r0)]) (own_rm4 l Z a0 hw []  el h371 n0  f374) (W := 1) (by decide) (by decide) (by decide) (by decide) rfl (by rw [hml]; rfl) (lenOf own_pd1 rfl) rfl (by show 2 * 0 + _ ≤ _; exact Nat.le_of_eq rfl) (hb hby d2_30) (fun T375 h377 v378 Y376 q379 => ?_)
  obtain ⟨rfl, rfl⟩ := q379
  show own_Ends _ _ _ _ (T375.setTop (mkF m 33 #[rv r0, iv 0, iv 536870912, iv 2147483639] [(.ref el), (.ref r0)]))
  have f380 := f364.wr W372
  have f381 := Fb_edgeColumns.ext E317
  have f382 := own_sn f381 W329 (own_wl hw 29 rfl) (own_wl hw 17 rfl) (by decide) own_f5 own_f4
  have f383 := f382.ext E334
  have f384 := own_sn f383 W353 (own_wl hw 29 rfl) (own_wl hw 19 rfl) (by decide) own_f5 own_f4
  have f385 := own_sn f384 W372 (own_wl hw 29 rfl) (own_wl hw 27 rfl) (by decide) own_f5 own_f5
  refine p_putF Y376 hx hZ hown (host := "") (Or.inl (own_w hw 28 rfl)) Via.refl f385 f380 (Or.inl (own_w hw 29 rfl)) (own_w hw 1 rfl) g (ty := (.object "java/util/List")) (by decide) rfl rfl hby rfl d2_33 (fun T386 h388 Y387 W389 F390 => ?_)
  refine o_aloadN Y387 hx hby d2_36 rfl rfl ?_
  refine o_iloadN Y387 hx hby d2_37 rfl ?_
  have f391 := f380.wr W389
  have f392 := Fb_directed.ext E317
  have f393 := own_sn f392 W329 (own_wf hw 31 rfl) (own_wl hw 17 rfl) (by decide) own_f6 own_f4
  have f394 := f393.ext E334
  have f395 := own_sn f394 W353 (own_wf hw 31 rfl) (own_wl hw 19 rfl) (by decide) own_f6 own_f4
  have f396 := own_sn f395 W372 (own_wf hw 31 rfl) (own_wl hw 27 rfl) (by decide) own_f6 own_f5
  have f397 := own_sn f396 W389 (own_wf hw 31 rfl) (own_wl hw 29 rfl) (by decide) own_f6 own_f5
  refine p_putFN Y387 hx hZ hown (own_w hw 30 rfl) Via.refl f397 f391 (Or.inr ⟨(own_w hw 31 rfl), rfl, hnm⟩) (own_w hw 1 rfl) g (ty := .boolean) (v' := (.int 0)) (by decide) rfl (by decide) hby rfl d2_38 (fun T398 h400 Y399 W401 F402 => ?_)
  refine o_aloadN Y399 hx hby d2_41 rfl rfl ?_
  refine o_iloadN Y399 hx hby d2_42 rfl ?_
  have f403 := f391.wr W401
  have f404 := Fb_maxVertices.ext E317
  have f405 := own_sn f404 W329 (own_wf hw 33 rfl) (own_wl hw 17 rfl) (by decide) own_f1 own_f4
  have f406 := f405.ext E334
  have f407 := own_sn f406 W353 (own_wf hw 33 rfl) (own_wl hw 19 rfl) (by decide) own_f1 own_f4
  have f408 := own_sn f407 W372 (own_wf hw 33 rfl) (own_wl hw 27 rfl) (by decide) own_f1 own_f5
  have f409 := own_sn f408 W389 (own_wf hw 33 rfl) (own_wl hw 29 rfl) (by decide) own_f1 own_f5
  have f410 := own_sn f409 W401 (own_wf hw 33 rfl) (own_wf hw 31 rfl) (by decide) own_f1 own_f6
  refine p_putF Y399 hx hZ hown (host := "") (Or.inl (own_w hw 32 rfl)) Via.refl f410 f403 (Or.inr ⟨(own_w hw 33 rfl), rfl, hnm⟩) (own_w hw 1 rfl) g (ty := .int) (by decide) rfl rfl hby rfl d2_43 (fun T411 h413 Y412 W414 F415 => ?_)
  refine o_aloadN Y412 hx hby d2_46 rfl rfl ?_
  refine own_new Y412 hx hZ hown (own_w hw 34 rfl) (own_w hw 35 rfl) (own_w hw 36 rfl) rfl (hb hby d2_47) (by decide) (by decide) (fun T416 h418 b422 eb423 Y417 E419 X420 D421 => ?_)
  have f424 := f403.wr W414
  have ne425 : r0 ≠ b422 := Nat.ne_of_lt (by rw [eb423]; exact f424.lt)
  have f426 := f341.ext E334
  have f427 := f426.other W353 (Ne.symm ne322)
  have f428 := f427.other W372 (Ne.symm ne322)
  have f429 := f428.other W389 (Ne.symm ne322)
  have f430 := f429.other W401 (Ne.symm ne322)
  have f431 := f430.other W414 (Ne.symm ne322)
  have ne432 : b319 ≠ b422 := Nat.ne_of_lt (by rw [eb423]; exact f431.lt)
  have f433 := A335.other W353 (Ne.symm ne340)
  have f434 := f433.other W372 (Ne.symm ne340)
  have f435 := f434.other W389 (Ne.symm ne340)
  have f436 := f435.other W401 (Ne.symm ne340)
  have f437 := f436.other W414 (Ne.symm ne340)
  have ne438 : b336 ≠ b422 := Nat.ne_of_lt (by rw [eb423]; exact f437.lt)
  have z440 : n0 ≤ h333.size := Nat.le_trans z345 E334.1
  have z441 : n0 ≤ h352.size := Nat.le_trans z440 (Nat.le_of_eq W353.size.symm)
  have z442 : n0 ≤ h371.size := Nat.le_trans z441 (Nat.le_of_eq W372.size.symm)
  have z443 : n0 ≤ h388.size := Nat.le_trans z442 (Nat.le_of_eq W389.size.symm)
  have z444 : n0 ≤ h400.size := Nat.le_trans z443 (Nat.le_of_eq W401.size.symm)
  have z445 : n0 ≤ h413.size := Nat.le_trans z444 (Nat.le_of_eq W414.size.symm)
  have g439 : n0 ≤ b422 := by rw [eb423]; exact z445
  have F446 : Fld Z h418 b422 "kombos/graph/IdIndex" "maxSize" "I" (.int 0) := D421 _ _ _ .int (Or.inr (own_w hw 42 rfl)) (by decide)
  have F447 : Fld Z h418 b422 "kombos/graph/IdIndex" "direct" "[I" .null := D421 _ _ _ (.array .int) (Or.inl (own_w hw 69 rfl)) (by decide)
  have F448 : Fld Z h418 b422 "kombos/graph/IdIndex" "slots" "[I" .null := D421 _ _ _ (.array .int) (Or.inl (own_w hw 71 rfl)) (by decide)
  have F449 : Fld Z h418 b422 "kombos/graph/IdIndex" "first" "J" (.long 0) := D421 _ _ _ .long (Or.inl (own_w hw 73 rfl)) (by decide)
  have F450 : Fld Z h418 b422 "kombos/graph/IdIndex" "size" "I" (.int 0) := D421 _ _ _ .int (Or.inl (own_w hw 75 rfl)) (by decide)
  have F451 : Fld Z h418 b422 "kombos/graph/IdIndex" "ids" "[J" .null := D421 _ _ _ (.array .long) (Or.inl (own_w hw 81 rfl)) (by decide)
  show own_Ends _ _ _ _ (T416.setTop (mkF m 50 #[rv r0, iv 0, iv 536870912, iv 2147483639] [(.ref b422), (.ref r0)]))
  refine o_dup Y417 hx hby d2_50 rfl rfl ?_
  refine o_iloadN Y417 hx hby d2_51 rfl ?_
  refine own_callN Y417 hx hZ (y := (⟨"kombos/graph/IdIndex", "<init>", "(I)V"⟩ : MethodName)) rfl hown (own_w hw 37 rfl) (own_w hw 38 rfl) (own_w hw 36 rfl) (own_w hw 39 rfl) (by decide) (a := b422) (argsL := [(.int 536870912)]) (rest := [(.ref b422), (.ref r0)]) (own_rm5 l Z a0 hw [] b422  h418 n0  X420 F446 F451 F449 F447 F448 F450 g439) (W := 2) (by decide) (by decide) (by decide) (by decide) rfl (by rw [hml]; rfl) (lenOf own_pd2 rfl) rfl (by show 2 * 0 + _ ≤ _; exact Nat.le_of_eq rfl) (hb hby d2_52) (fun T452 h454 v455 Y453 q456 => ?_)
  obtain ⟨rfl, K457, F458, F459, F460, F461, F462, F463, F464⟩ := q456
  show own_Ends _ _ _ _ (T452.setTop (mkF m 55 #[rv r0, iv 0, iv 536870912, iv 2147483639] [(.ref b422), (.ref r0)]))
  have f465 := f424.ext E419
  have f466 := f465.keep K457
  have f467 := Fb_index.ext E317
  have f468 := own_sn f467 W329 (own_wf hw 44 rfl) (own_wl hw 17 rfl) (by decide) own_f7 own_f4
  have f469 := f468.ext E334
  have f470 := own_sn f469 W353 (own_wf hw 44 rfl) (own_wl hw 19 rfl) (by decide) own_f7 own_f4
  have f471 := own_sn f470 W372 (own_wf hw 44 rfl) (own_wl hw 27 rfl) (by decide) own_f7 own_f5
  have f472 := own_sn f471 W389 (own_wf hw 44 rfl) (own_wl hw 29 rfl) (by decide) own_f7 own_f5
  have f473 := own_sn f472 W401 (own_wf hw 44 rfl) (own_wf hw 31 rfl) (by decide) own_f7 own_f6
  have f474 := own_sn f473 W414 (own_wf hw 44 rfl) (own_wf hw 33 rfl) (by decide) own_f7 own_f1
  have f475 := f474.ext E419
  have f476 := f475.keep K457 (ninS ne425 nin0)
  refine p_putF Y453 hx hZ hown (host := "") (Or.inl (own_w hw 43 rfl)) Via.refl f476 f466 (Or.inr ⟨(own_w hw 44 rfl), rfl, hnm⟩) (own_w hw 1 rfl) g (ty := (.object "kombos/graph/IdIndex")) (by decide) rfl rfl hby rfl d2_55 (fun T477 h479 Y478 W480 F481 => ?_)
  refine o_aloadN Y478 hx hby d2_58 rfl rfl ?_
  refine o_iloadN Y478 hx hby d2_59 rfl ?_
  refine o_ifYes Y478 hx hby (pc' := 67) d2_60 rfl (XT.i0_eq_t (by decide)) (by decide) (by decide) ?_
  refine o_iloadN Y478 hx hby d2_67 rfl ?_
  refine o_iconst Y478 hx hby d2_68 (x := 2) rfl ?_
  refine own_st (fun t_ => XS.idiv (own_here Y478) hx rfl (hb hby d2_69) rfl (by decide)) ?_
  show own_Ends _ _ _ _ (T477.setTop (mkF m 70 #[rv r0, iv 0, iv 536870912, iv 2147483639] [(.int 1073741819), (.ref r0)]))
  have f482 := f466.wr W480
  have f483 := Fb_maxEdges.ext E317
  have f484 := own_sn f483 W329 (own_wf hw 46 rfl) (own_wl hw 17 rfl) (by decide) own_f1 own_f4
  have f485 := f484.ext E334
  have f486 := own_sn f485 W353 (own_wf hw 46 rfl) (own_wl hw 19 rfl) (by decide) own_f1 own_f4
  have f487 := own_sn f486 W372 (own_wf hw 46 rfl) (own_wl hw 27 rfl) (by decide) own_f1 own_f5
  have f488 := own_sn f487 W389 (own_wf hw 46 rfl) (own_wl hw 29 rfl) (by decide) own_f1 own_f5
  have f489 := own_sn f488 W401 (own_wf hw 46 rfl) (own_wf hw 31 rfl) (by decide) own_f1 own_f6
  have f490 := own_sn f489 W414 (own_wf hw 46 rfl) (own_wf hw 33 rfl) (by decide) own_f1 own_f1
  have f491 := f490.ext E419
  have f492 := f491.keep K457 (ninS ne425 nin0)
  have f493 := own_sn f492 W480 (own_wf hw 46 rfl) (own_wf hw 44 rfl) (by decide) own_f1 own_f7
  refine p_putF Y478 hx hZ hown (host := "") (Or.inl (own_w hw 45 rfl)) Via.refl f493 f482 (Or.inr ⟨(own_w hw 46 rfl), rfl, hnm⟩) (own_w hw 1 rfl) g (ty := .int) (by decide) rfl rfl hby rfl d2_70 (fun T494 h496 Y495 W497 F498 => ?_)
  have K499 : Keep h0 h316 [r0] := (Keep.refl h0 [r0]).ext E317
  have K500 : Keep h0 h328 [r0] := K499.wr W329 (Or.inl (List.mem_of_getElem? (i := 0) rfl))
  have K501 : Keep h0 h333 [r0] := K500.ext E334
  have K502 : Keep h0 h352 [r0] := K501.wr W353 (Or.inl (List.mem_of_getElem? (i := 0) rfl))
  have K503 : Keep h0 h371 [r0] := K502.wr W372 (Or.inl (List.mem_of_getElem? (i := 0) rfl))
  have K504 : Keep h0 h388 [r0] := K503.wr W389 (Or.inl (List.mem_of_getElem? (i := 0) rfl))
  have K505 : Keep h0 h400 [r0] := K504.wr W401 (Or.inl (List.mem_of_getElem? (i := 0) rfl))
  have K506 : Keep h0 h413 [r0] := K505.wr W414 (Or.inl (List.mem_of_getElem? (i := 0) rfl))
  have K507 : Keep h0 h418 [r0] := K506.ext E419
  have K508 : Keep h0 h454 [r0] := K507.trans K457 (allS (Or.inr (by rw [eb423]; exact K506.1)) all0)
  have K509 : Keep h0 h479 [r0] := K508.wr W480 (Or.inl (List.mem_of_getElem? (i := 0) rfl))
  have K510 : Keep h0 h496 [r0] := K509.wr W497 (Or.inl (List.mem_of_getElem? (i := 0) rfl))
  have f511 := f482.wr W497
  have f512 := F330.ext E334
  have f513 := own_sn f512 W353 (own_wl hw 17 rfl) (own_wl hw 19 rfl) (by decide) own_f4 own_f4
  have f514 := own_sn f513 W372 (own_wl hw 17 rfl) (own_wl hw 27 rfl) (by decide) own_f4 own_f5
  have f515 := own_sn f514 W389 (own_wl hw 17 rfl) (own_wl hw 29 rfl) (by decide) own_f4 own_f5
  have f516 := own_sn f515 W401 (own_wl hw 17 rfl) (own_wf hw 31 rfl) (by decide) own_f4 own_f6
  have f517 := own_sn f516 W414 (own_wl hw 17 rfl) (own_wf hw 33 rfl) (by decide) own_f4 own_f1
  have f518 := f517.ext E419
  have f519 := f518.keep K457 (ninS ne425 nin0)
  have f520 := own_sn f519 W480 (own_wl hw 17 rfl) (own_wf hw 44 rfl) (by decide) own_f4 own_f7
  have f521 := own_sn f520 W497 (own_wl hw 17 rfl) (own_wf hw 46 rfl) (by decide) own_f4 own_f1
  have f522 := own_sn F354 W372 (own_wl hw 19 rfl) (own_wl hw 27 rfl) (by decide) own_f4 own_f5
  have f523 := own_sn f522 W389 (own_wl hw 19 rfl) (own_wl hw 29 rfl) (by decide) own_f4 own_f5
  have f524 := own_sn f523 W401 (own_wl hw 19 rfl) (own_wf hw 31 rfl) (by decide) own_f4 own_f6
  have f525 := own_sn f524 W414 (own_wl hw 19 rfl) (own_wf hw 33 rfl) (by decide) own_f4 own_f1
  have f526 := f525.ext E419
  have f527 := f526.keep K457 (ninS ne425 nin0)
  have f528 := own_sn f527 W480 (own_wl hw 19 rfl) (own_wf hw 44 rfl) (by decide) own_f4 own_f7
  have f529 := own_sn f528 W497 (own_wl hw 19 rfl) (own_wf hw 46 rfl) (by decide) own_f4 own_f1
  have f530 := own_sn F373 W389 (own_wl hw 27 rfl) (own_wl hw 29 rfl) (by decide) own_f5 own_f5
  have f531 := own_sn f530 W401 (own_wl hw 27 rfl) (own_wf hw 31 rfl) (by decide) own_f5 own_f6
  have f532 := own_sn f531 W414 (own_wl hw 27 rfl) (own_wf hw 33 rfl) (by decide) own_f5 own_f1
  have f533 := f532.ext E419
  have f534 := f533.keep K457 (ninS ne425 nin0)
  have f535 := own_sn f534 W480 (own_wl hw 27 rfl) (own_wf hw 44 rfl) (by decide) own_f5 own_f7
  have f536 := own_sn f535 W497 (own_wl hw 27 rfl) (own_wf hw 46 rfl) (by decide) own_f5 own_f1
  have f537 := own_sn F390 W401 (own_wl hw 29 rfl) (own_wf hw 31 rfl) (by decide) own_f5 own_f6
  have f538 := own_sn f537 W414 (own_wl hw 29 rfl) (own_wf hw 33 rfl) (by decide) own_f5 own_f1
  have f539 := f538.ext E419
  have f540 := f539.keep K457 (ninS ne425 nin0)
  have f541 := own_sn f540 W480 (own_wl hw 29 rfl) (own_wf hw 44 rfl) (by decide) own_f5 own_f7
  have f542 := own_sn f541 W497 (own_wl hw 29 rfl) (own_wf hw 46 rfl) (by decide) own_f5 own_f1
  have f543 := own_sn F402 W414 (own_wf hw 31 rfl) (own_wf hw 33 rfl) (by decide) own_f6 own_f1
  have f544 := f543.ext E419
  have f545 := f544.keep K457 (ninS ne425 nin0)
  have f546 := own_sn f545 W480 (own_wf hw 31 rfl) (own_wf hw 44 rfl) (by decide) own_f6 own_f7
  have f547 := own_sn f546 W497 (own_wf hw 31 rfl) (own_wf hw 46 rfl) (by decide) own_f6 own_f1
  have f548 := F415.ext E419
  have f549 := f548.keep K457 (ninS ne425 nin0)
  have f550 := own_sn f549 W480 (own_wf hw 33 rfl) (own_wf hw 44 rfl) (by decide) own_f1 own_f7
  have f551 := own_sn f550 W497 (own_wf hw 33 rfl) (own_wf hw 46 rfl) (by decide) own_f1 own_f1
  have f552 := own_sn F481 W497 (own_wf hw 44 rfl) (own_wf hw 46 rfl) (by decide) own_f7 own_f1
  have f553 := Fb_keys.ext E317
  have f554 := own_sn f553 W329 (own_wl hw 57 rfl) (own_wl hw 17 rfl) (by decide) own_f8 own_f4
  have f555 := f554.ext E334
  have f556 := own_sn f555 W353 (own_wl hw 57 rfl) (own_wl hw 19 rfl) (by decide) own_f8 own_f4
  have f557 := own_sn f556 W372 (own_wl hw 57 rfl) (own_wl hw 27 rfl) (by decide) own_f8 own_f5
  have f558 := own_sn f557 W389 (own_wl hw 57 rfl) (own_wl hw 29 rfl) (by decide) own_f8 own_f5
  have f559 := own_sn f558 W401 (own_wl hw 57 rfl) (own_wf hw 31 rfl) (by decide) own_f8 own_f6
  have f560 := own_sn f559 W414 (own_wl hw 57 rfl) (own_wf hw 33 rfl) (by decide) own_f8 own_f1
  have f561 := f560.ext E419
  have f562 := f561.keep K457 (ninS ne425 nin0)
  have f563 := own_sn f562 W480 (own_wl hw 57 rfl) (own_wf hw 44 rfl) (by decide) own_f8 own_f7
  have f564 := own_sn f563 W497 (own_wl hw 57 rfl) (own_wf hw 46 rfl) (by decide) own_f8 own_f1
  have f565 := Fb_edgeCount.ext E317
  have f566 := own_sn f565 W329 (own_wl hw 98 rfl) (own_wl hw 17 rfl) (by decide) own_f1 own_f4
  have f567 := f566.ext E334
  have f568 := own_sn f567 W353 (own_wl hw 98 rfl) (own_wl hw 19 rfl) (by decide) own_f1 own_f4
  have f569 := own_sn f568 W372 (own_wl hw 98 rfl) (own_wl hw 27 rfl) (by decide) own_f1 own_f5
  have f570 := own_sn f569 W389 (own_wl hw 98 rfl) (own_wl hw 29 rfl) (by decide) own_f1 own_f5
  have f571 := own_sn f570 W401 (own_wl hw 98 rfl) (own_wf hw 31 rfl) (by decide) own_f1 own_f6
  have f572 := own_sn f571 W414 (own_wl hw 98 rfl) (own_wf hw 33 rfl) (by decide) own_f1 own_f1
  have f573 := f572.ext E419
  have f574 := f573.keep K457 (ninS ne425 nin0)
  have f575 := own_sn f574 W480 (own_wl hw 98 rfl) (own_wf hw 44 rfl) (by decide) own_f1 own_f7
  have f576 := own_sn f575 W497 (own_wl hw 98 rfl) (own_wf hw 46 rfl) (by decide) own_f1 own_f1
  have f577 := Fb_weights.ext E317
  have f578 := own_sn f577 W329 (own_wl hw 101 rfl) (own_wl hw 17 rfl) (by decide) own_f9 own_f4
  have f579 := f578.ext E334
  have f580 := own_sn f579 W353 (own_wl hw 101 rfl) (own_wl hw 19 rfl) (by decide) own_f9 own_f4
  have f581 := own_sn f580 W372 (own_wl hw 101 rfl) (own_wl hw 27 rfl) (by decide) own_f9 own_f5
  have f582 := own_sn f581 W389 (own_wl hw 101 rfl) (own_wl hw 29 rfl) (by decide) own_f9 own_f5
  have f583 := own_sn f582 W401 (own_wl hw 101 rfl) (own_wf hw 31 rfl) (by decide) own_f9 own_f6
  have f584 := own_sn f583 W414 (own_wl hw 101 rfl) (own_wf hw 33 rfl) (by decide) own_f9 own_f1
  have f585 := f584.ext E419
  have f586 := f585.keep K457 (ninS ne425 nin0)
  have f587 := own_sn f586 W480 (own_wl hw 101 rfl) (own_wf hw 44 rfl) (by decide) own_f9 own_f7
  have f588 := own_sn f587 W497 (own_wl hw 101 rfl) (own_wf hw 46 rfl) (by decide) own_f9 own_f1
  have f589 := Fb_decimal.ext E317
  have f590 := own_sn f589 W329 (own_wl hw 137 rfl) (own_wl hw 17 rfl) (by decide) own_f6 own_f4
  have f591 := f590.ext E334
  have f592 := own_sn f591 W353 (own_wl hw 137 rfl) (own_wl hw 19 rfl) (by decide) own_f6 own_f4
  have f593 := own_sn f592 W372 (own_wl hw 137 rfl) (own_wl hw 27 rfl) (by decide) own_f6 own_f5
  have f594 := own_sn f593 W389 (own_wl hw 137 rfl) (own_wl hw 29 rfl) (by decide) own_f6 own_f5
  have f595 := own_sn f594 W401 (own_wl hw 137 rfl) (own_wf hw 31 rfl) (by decide) own_f6 own_f6
  have f596 := own_sn f595 W414 (own_wl hw 137 rfl) (own_wf hw 33 rfl) (by decide) own_f6 own_f1
  have f597 := f596.ext E419
  have f598 := f597.keep K457 (ninS ne425 nin0)
  have f599 := own_sn f598 W480 (own_wl hw 137 rfl) (own_wf hw 44 rfl) (by decide) own_f6 own_f7
  have f600 := own_sn f599 W497 (own_wl hw 137 rfl) (own_wf hw 46 rfl) (by decide) own_f6 own_f1
  have f601 := X321.wr W329
  have f602 := f601.ext E334
  have f603 := f602.wr W353
  have f604 := f603.wr W372
  have f605 := f604.wr W389
  have f606 := f605.wr W401
  have f607 := f606.wr W414
  have f608 := f607.ext E419
  have f609 := f608.keep K457
  have f610 := f609.wr W480
  have f611 := f610.wr W497
  have f612 := f431.ext E419
  have f613 := f612.keep K457 (ninS ne432 nin0)
  have f614 := f613.other W480 (Ne.symm ne322)
  have f615 := f614.other W497 (Ne.symm ne322)
  have f616 := X338.wr W353
  have f617 := f616.wr W372
  have f618 := f617.wr W389
  have f619 := f618.wr W401
  have f620 := f619.wr W414
  have f621 := f620.ext E419
  have f622 := f621.keep K457
  have f623 := f622.wr W480
  have f624 := f623.wr W497
  have f625 := f437.ext E419
  have f626 := f625.keep K457 (ninS ne438 nin0)
  have f627 := f626.other W480 (Ne.symm ne340)
  have f628 := f627.other W497 (Ne.symm ne340)
  have f629 := F458.wr W480
  have f630 := f629.wr W497
  have f631 := F459.other W480 (Or.inl (Ne.symm ne425))
  have f632 := f631.other W497 (Or.inl (Ne.symm ne425))
  have f633 := F460.other W480 (Or.inl (Ne.symm ne425))
  have f634 := f633.other W497 (Or.inl (Ne.symm ne425))
  have f635 := F461.other W480 (Or.inl (Ne.symm ne425))
  have f636 := f635.other W497 (Or.inl (Ne.symm ne425))
  have f637 := F462.other W480 (Or.inl (Ne.symm ne425))
  have f638 := f637.other W497 (Or.inl (Ne.symm ne425))
  have f639 := F463.other W480 (Or.inl (Ne.symm ne425))
  have f640 := f639.other W497 (Or.inl (Ne.symm ne425))
  have f641 := F464.other W480 (Or.inl (Ne.symm ne425))
  have f642 := f641.other W497 (Or.inl (Ne.symm ne425))
  refine own_retV Y495 hx hlk hret (hb hby d2_73) (by decide) (by decide) ?_
  exact ⟨_, _, _, rfl, K510, f511, f521, f529, f536, f542, f547, f551, f552, F498, f564, f576, f588, f600, f611, f615, f624, f628, f630, f632, f634, f636, f638, f640, f642, (by rw [eb320]; exact (Keep.refl h0 [r0]).1), (by rw [eb337]; exact K500.1), (by rw [eb423]; exact K506.1), ne342, ne432, ne438⟩
theorem own_pd3 : parseMethodDescriptor "(ZII)V" = some ⟨[.boolean, .int, .int], none⟩ := by decide +kernel
def bc1 : ByteArray := prog_45_method_1_code
theorem d1_0 : decode bc1 0 = .ok (.aload_n 0, 1) := by decide +kernel
theorem d1_1 : decode bc1 1 = .ok (.iload_n 1, 1) := by decide +kernel
theorem d1_2 : decode bc1 2 = .ok (.ldc 7, 2) := by decide +kernel
theorem d1_4 : decode bc1 4 = .ok (.ldc 8, 2) := by decide +kernel
theorem d1_6 : decode bc1 6 = .ok (.invokespecial 9, 3) := by decide +kernel
theorem d1_9 : decode bc1 9 = .ok (.return_, 1) := by decide +kernel
theorem own_ef_own_rm1 (m : MethodId) (r0 : Addr) : entryFrame m #[(.ref r0), (.int 0)] 2 = mkF m 0 #[rv r0, iv 0] [] := by first | (simp [entryFrame, mkF, argsToLocals, Value.category]; done) | rfl
def own_Q_own_rm1 (Z : State) (r0 el : Addr) (h0 : Heap) (n0 : Nat) (v : Option Value) (h : Heap) : Prop := ∃ s t ix : Addr, v = none ∧ Keep h0 h [r0] ∧ Exa Z h r0 "kombos/graph/Graph$Builder" ∧ Fld Z h r0 "kombos/graph/Graph$Builder" "sources" "[[I" (.ref s) ∧ Fld Z h r0 "kombos/graph/Graph$Builder" "targets" "[[I" (.ref t) ∧ Fld Z h r0 "kombos/graph/Graph$Builder" "vertexColumns" "Ljava/util/List;" (.ref el) ∧ Fld Z h r0 "kombos/graph/Graph$Builder" "edgeColumns" "Ljava/util/List;" (.ref el) ∧ Fld Z h r0 "kombos/graph/Graph$Builder" "directed" "Z" (.int 0) ∧ Fld Z h r0 "kombos/graph/Graph$Builder" "maxVertices" "I" (.int 536870912) ∧ Fld Z h r0 "kombos/graph/Graph$Builder" "index" "Lkombos/graph/IdIndex;" (.ref ix) ∧ Fld Z h r0 "kombos/graph/Graph$Builder" "maxEdges" "I" (.int 1073741819) ∧ Fld Z h r0 "kombos/graph/Graph$Builder" "keys" "Lkombos/graph/KeyIndex;" .null ∧ Fld Z h r0 "kombos/graph/Graph$Builder" "edgeCount" "I" (.int 0) ∧ Fld Z h r0 "kombos/graph/Graph$Builder" "weights" "[[J" .null ∧ Fld Z h r0 "kombos/graph/Graph$Builder" "decimal" "Z" (.int 0) ∧ Exa Z h s "[[I" ∧ own_A Z h s (.array .int) (List.replicate 16 .null) ∧ Exa Z h t "[[I" ∧ own_A Z h t (.array .int) (List.replicate 16 .null) ∧ Exa Z h ix "kombos/graph/IdIndex" ∧ Fld Z h ix "kombos/graph/IdIndex" "maxSize" "I" (.int 536870912) ∧ Fld Z h ix "kombos/graph/IdIndex" "ids" "[J" .null ∧ Fld Z h ix "kombos/graph/IdIndex" "first" "J" (.long 0) ∧ Fld Z h ix "kombos/graph/IdIndex" "direct" "[I" .null ∧ Fld Z h ix "kombos/graph/IdIndex" "slots" "[I" .null ∧ Fld Z h ix "kombos/graph/IdIndex" "size" "I" (.int 0) ∧ h0.size ≤ s ∧ h0.size ≤ t ∧ h0.size ≤ ix ∧ s ≠ t ∧ s ≠ ix ∧ t ≠ ix
set_option maxRecDepth 65536 in
set_option maxHeartbeats 40000000 in
theorem own_rm1 (l : Launch) (Z : State) (a0 : Array Value) (hw : ∀ d ∈ tables_1, d.before a0 Z = true) (ws : List Jvm.Cond) (r0 : Addr) (el : Addr) (h0 : Heap) (n0 : Nat) (Z0 : n0 ≤ h0.size) (Eb : Exa Z h0 r0 "kombos/graph/Graph$Builder") (Fb_sources : Fld Z h0 r0 "kombos/graph/Graph$Builder" "sources" "[[I" .null) (Fb_targets : Fld Z h0 r0 "kombos/graph/Graph$Builder" "targets" "[[I" .null) (Fb_vertexColumns : Fld Z h0 r0 "kombos/graph/Graph$Builder" "vertexColumns" "Ljava/util/List;" .null) (Fb_edgeColumns : Fld Z h0 r0 "kombos/graph/Graph$Builder" "edgeColumns" "Ljava/util/List;" .null) (Fb_directed : Fld Z h0 r0 "kombos/graph/Graph$Builder" "directed" "Z" (.int 0)) (Fb_maxVertices : Fld Z h0 r0 "kombos/graph/Graph$Builder" "maxVertices" "I" (.int 0)) (Fb_index : Fld Z h0 r0 "kombos/graph/Graph$Builder" "index" "Lkombos/graph/IdIndex;" .null) (Fb_maxEdges : Fld Z h0 r0 "kombos/graph/Graph$Builder" "maxEdges" "I" (.int 0)) (Fb_keys : Fld Z h0 r0 "kombos/graph/Graph$Builder" "keys" "Lkombos/graph/KeyIndex;" .null) (Fb_edgeCount : Fld Z h0 r0 "kombos/graph/Graph$Builder" "edgeCount" "I" (.int 0)) (Fb_weights : Fld Z h0 r0 "kombos/graph/Graph$Builder" "weights" "[[J" .null) (Fb_decimal : Fld Z h0 r0 "kombos/graph/Graph$Builder" "decimal" "Z" (.int 0)) (S : Sta Z h0 "java/util/ImmutableCollections" "EMPTY_LIST" "Ljava/util/ImmutableCollections$ListN;" (.ref el)) (g : n0 ≤ r0) :
    own_Con l Z (⟨"kombos/graph/Graph$Builder", "<init>", "(Z)V"⟩ : MethodName) prog_45_method_1_code 2 none ws ({ frames := 3, cells := 3, slots := 40, locals := 42 } : Room) #[(.ref r0), (.int 0)] h0 n0 (own_Q_own_rm1 Z r0 el h0 n0) := by
  refine own_body (plainFor_of_name own_pn1) ?_
  intro p e s m below meth c T0 hx hZ hby hml hown hnm hret hlk Y0
  replace hown : s.vm.findClass "kombos/graph/Graph$Builder" = some m.cls := hown
  replace hnm : meth.name = "<init>" := hnm
  rw [own_ef_own_rm1 m r0]
  show own_Ends _ _ _ _ (T0.setTop (mkF m 0 #[rv r0, iv 0] []))
  refine o_aloadN Y0 hx hby d1_0 rfl rfl ?_
  refine o_iloadN Y0 hx hby d1_1 rfl ?_
  refine own_ldcI Y0 hx hZ hown (own_w hw 6 rfl) rfl (hb hby d1_2) ?_
  show own_Ends _ _ _ _ (T0.setTop (mkF m 4 #[rv r0, iv 0] [(.int 536870912), (.int 0), (.ref r0)]))
  refine own_ldcI Y0 hx hZ hown (own_w hw 7 rfl) rfl (hb hby d1_4) ?_
  show own_Ends _ _ _ _ (T0.setTop (mkF m 6 #[rv r0, iv 0] [(.int 2147483639), (.int 536870912), (.int 0), (.ref r0)]))
  refine own_callN Y0 hx hZ (y := (⟨"kombos/graph/Graph$Builder", "<init>", "(ZII)V"⟩ : MethodName)) rfl hown (own_w hw 8 rfl) (own_w hw 9 rfl) (own_w hw 2 rfl) (own_w hw 10 rfl) (by decide) (a := r0) (argsL := [(.int 0), (.int 536870912), (.int 2147483639)]) (rest := []) (own_rm2 l Z a0 hw [] r0 el h0 n0 Z0 Eb Fb_sources Fb_targets Fb_vertexColumns Fb_edgeColumns Fb_directed Fb_maxVertices Fb_index Fb_maxEdges Fb_keys Fb_edgeCount Fb_weights Fb_decimal S g) (W := 0) (by decide) (by decide) (by decide) (by decide) rfl (by rw [hml]; rfl) (lenOf own_pd3 rfl) rfl (by show 2 * 0 + _ ≤ _; exact Nat.le_of_eq rfl) (hb hby d1_6) (fun T643 h645 v646 Y644 q647 => ?_)
  obtain ⟨sa648, ta649, ixa650, rfl, K651, F652, F653, F654, F655, F656, F657, F658, F659, F660, F661, F662, F663, F664, F672, F673, F674, F675, F665, F666, F667, F668, F669, F670, F671, hz676, hz677, hz678, ne679, ne680, ne681⟩ := q647
  have ne682 : r0 ≠ sa648 := Nat.ne_of_lt (Nat.lt_of_lt_of_le Eb.lt hz676)
  have g683 : n0 ≤ sa648 := Nat.le_trans Z0 hz676
  have ne684 : r0 ≠ ta649 := Nat.ne_of_lt (Nat.lt_of_lt_of_le Eb.lt hz677)
  have g685 : n0 ≤ ta649 := Nat.le_trans Z0 hz677
  have ne686 : r0 ≠ ixa650 := Nat.ne_of_lt (Nat.lt_of_lt_of_le Eb.lt hz678)
  have g687 : n0 ≤ ixa650 := Nat.le_trans Z0 hz678
  show own_Ends _ _ _ _ (T643.setTop (mkF m 9 #[rv r0, iv 0] []))
  have K688 : Keep h0 h645 [r0] := (Keep.refl h0 [r0]).trans K651 (allS (Or.inl (List.mem_of_getElem? (i := 0) rfl)) all0)
  refine own_retV Y644 hx hlk hret (hb hby d1_9) (by decide) (by decide) ?_
  exact ⟨_, _, _, rfl, K688, F652, F653, F654, F655, F656, F657, F658, F659, F660, F661, F662, F663, F664, F672, F673, F674, F675, F665, F666, F667, F668, F669, F670, F671, hz676, hz677, hz678, ne679, ne680, ne681⟩
theorem own_zA {Z : State} {h : Heap} {b : Addr} {n : Nat} (A : own_A Z h b .int (List.replicate n (.int 0))) : ∃ S : List Int32, S.length = n ∧ own_A Z h b .int (S.map Value.int) := by
  refine ⟨List.replicate n 0, by simp, ?_⟩
  rw [List.map_replicate]; exact A
def bc31 : ByteArray := prog_45_method_17_code
theorem d31_0 : decode bc31 0 = .ok (.iload_n 1, 1) := by decide +kernel
theorem d31_1 : decode bc31 1 = .ok (.aload_n 0, 1) := by decide +kernel
theorem d31_2 : decode bc31 2 = .ok (.getfield 20, 3) := by decide +kernel
theorem d31_5 : decode bc31 5 = .ok (.arraylength, 1) := by decide +kernel
theorem d31_6 : decode bc31 6 = .ok (.if_icmp .ne 61, 3) := by decide +kernel
theorem d31_67 : decode bc31 67 = .ok (.aload_n 0, 1) := by decide +kernel
theorem d31_68 : decode bc31 68 = .ok (.getfield 20, 3) := by decide +kernel
theorem d31_71 : decode bc31 71 = .ok (.iload_n 1, 1) := by decide +kernel
theorem d31_72 : decode bc31 72 = .ok (.sipush 8192, 3) := by decide +kernel
theorem d31_75 : decode bc31 75 = .ok (.newarray .int, 2) := by decide +kernel
theorem d31_77 : decode bc31 77 = .ok (.aastore, 1) := by decide +kernel
theorem d31_78 : decode bc31 78 = .ok (.aload_n 0, 1) := by decide +kernel
theorem d31_79 : decode bc31 79 = .ok (.getfield 24, 3) := by decide +kernel
theorem d31_82 : decode bc31 82 = .ok (.iload_n 1, 1) := by decide +kernel
theorem d31_83 : decode bc31 83 = .ok (.sipush 8192, 3) := by decide +kernel
theorem d31_86 : decode bc31 86 = .ok (.newarray .int, 2) := by decide +kernel
theorem d31_88 : decode bc31 88 = .ok (.aastore, 1) := by decide +kernel
theorem d31_89 : decode bc31 89 = .ok (.aload_n 0, 1) := by decide +kernel
theorem d31_90 : decode bc31 90 = .ok (.getfield 134, 3) := by decide +kernel
theorem d31_93 : decode bc31 93 = .ok (.ifnull 14, 3) := by decide +kernel
theorem d31_107 : decode bc31 107 = .ok (.return_, 1) := by decide +kernel
theorem own_ef_own_rm31 (m : MethodId) (r0 : Addr) : entryFrame m #[(.ref r0), (.int 0)] 2 = mkF m 0 #[rv r0, iv 0] [] := by first | (simp [entryFrame, mkF, argsToLocals, Value.category]; done) | rfl
def own_Q_own_rm31 (Z : State) (sa ta : Addr) (h0 : Heap) (n0 : Nat) (v : Option Value) (h : Heap) : Prop := ∃ (bs bt : Addr) (S T : List Int32), S.length = 8192 ∧ T.length = 8192 ∧ v = none ∧ Keep h0 h [sa, ta] ∧ own_A Z h sa (.array .int) ((List.replicate 16 .null).set 0 (.ref bs)) ∧ own_A Z h ta (.array .int) ((List.replicate 16 .null).set 0 (.ref bt)) ∧ own_A Z h bs .int (S.map Value.int) ∧ own_A Z h bt .int (T.map Value.int) ∧ h0.size ≤ bs ∧ h0.size ≤ bt ∧ bs ≠ bt
set_option maxRecDepth 65536 in
set_option maxHeartbeats 40000000 in
theorem own_rm31 (l : Launch) (Z : State) (a0 : Array Value) (hw : ∀ d ∈ tables_1, d.before a0 Z = true) (ws : List Jvm.Cond) (r0 : Addr) (sa ta : Addr) (h0 : Heap) (n0 : Nat) (Z0 : n0 ≤ h0.size) (Eb : Exa Z h0 r0 "kombos/graph/Graph$Builder") (Fb_sources : Fld Z h0 r0 "kombos/graph/Graph$Builder" "sources" "[[I" (.ref sa)) (Fb_targets : Fld Z h0 r0 "kombos/graph/Graph$Builder" "targets" "[[I" (.ref ta)) (Fb_weights : Fld Z h0 r0 "kombos/graph/Graph$Builder" "weights" "[[J" .null) (Es : Exa Z h0 sa "[[I") (As : own_A Z h0 sa (.array .int) (List.replicate 16 .null)) (Et : Exa Z h0 ta "[[I") (At_ : own_A Z h0 ta (.array .int) (List.replicate 16 .null)) (gs : n0 ≤ sa) (gt : n0 ≤ ta) (nst : sa ≠ ta) (nsr : sa ≠ r0) (ntr : ta ≠ r0) :
    own_Con l Z (⟨"kombos/graph/Graph$Builder", "startBlock", "(I)V"⟩ : MethodName) prog_45_method_17_code 2 none ws ({ frames := 0, cells := 2, slots := 16384, locals := 0 } : Room) #[(.ref r0), (.int 0)] h0 n0 (own_Q_own_rm31 Z sa ta h0 n0) := by
  refine own_body (plainFor_of_name own_pn1) ?_
  intro p e s m below meth c T0 hx hZ hby hml hown hnm hret hlk Y0
  replace hown : s.vm.findClass "kombos/graph/Graph$Builder" = some m.cls := hown
  replace hnm : meth.name = "startBlock" := hnm
  rw [own_ef_own_rm31 m r0]
  show own_Ends _ _ _ _ (T0.setTop (mkF m 0 #[rv r0, iv 0] []))
  refine o_iloadN Y0 hx hby d31_0 rfl ?_
  refine o_aloadN Y0 hx hby d31_1 rfl rfl ?_
  refine p_getF Y0 hx hZ hown (host := "") (Or.inl (own_w hw 16 rfl)) Via.refl Fb_sources hby rfl d31_2 (fun T689 Y690 => ?_)
  refine p_len Y690 hx hZ As (z := (16 : Int32)) rfl hby rfl d31_5 ?_
  refine o_icmpYes Y690 hx hby (pc' := 67) d31_6 rfl (XT.ii_ne_t (by decide)) (by decide) (by decide) ?_
  refine o_aloadN Y690 hx hby d31_67 rfl rfl ?_
  refine p_getF Y690 hx hZ hown (host := "") (Or.inl (own_w hw 16 rfl)) Via.refl Fb_sources hby rfl d31_68 (fun T691 Y692 => ?_)
  refine o_iloadN Y692 hx hby d31_71 rfl ?_
  refine o_sipush Y692 hx hby d31_72 (x := 8192) rfl ?_
  refine own_newPE Y692 hx hZ (own_w hw 99 rfl) rfl (hb hby d31_75) rfl (by decide) (nz := 8192) (cap := 8192) (by decide) (by decide) (by decide) (by decide) (by decide) (fun T693 h695 b698 eb699 Y694 E696 A697 X700 => ?_)
  have ne701 : r0 ≠ b698 := Nat.ne_of_lt (by rw [eb699]; exact Eb.lt)
  have ne702 : sa ≠ b698 := Nat.ne_of_lt (by rw [eb699]; exact Es.lt)
  have ne703 : ta ≠ b698 := Nat.ne_of_lt (by rw [eb699]; exact Et.lt)
  have g704 : n0 ≤ b698 := by rw [eb699]; exact Z0
  show own_Ends _ _ _ _ (T693.setTop (mkF m 77 #[rv r0, iv 0] [(.ref b698), (.int 0), (.ref sa)]))
  have f705 := As.ext E696
  have f711 := Es.ext E696
  refine own_stR Y694 hx hZ f705 rfl gs (i := 0) (own_sto (own_w hw 15 rfl) f711 X700) (by decide) (by decide) (by decide) rfl rfl (hb hby d31_77) (fun T706 h708 Y707 W709 A710 => ?_)
  show own_Ends _ _ _ _ (T706.setTop (mkF m 78 #[rv r0, iv 0] []))
  refine o_aloadN Y707 hx hby d31_78 rfl rfl ?_
  have f712 := Fb_targets.ext E696
  have f713 := f712.other W709 (Or.inl (Ne.symm nsr))
  refine p_getF Y707 hx hZ hown (host := "") (Or.inl (own_w hw 18 rfl)) Via.refl f713 hby rfl d31_79 (fun T714 Y715 => ?_)
  refine o_iloadN Y715 hx hby d31_82 rfl ?_
  refine o_sipush Y715 hx hby d31_83 (x := 8192) rfl ?_
  refine own_newPE Y715 hx hZ (own_w hw 99 rfl) rfl (hb hby d31_86) rfl (by decide) (nz := 8192) (cap := 8192) (by decide) (by decide) (by decide) (by decide) (by decide) (fun T716 h718 b721 eb722 Y717 E719 A720 X723 => ?_)
  have f724 := Eb.ext E696
  have f725 := f724.wr W709
  have ne726 : r0 ≠ b721 := Nat.ne_of_lt (by rw [eb722]; exact f725.lt)
  have f727 := f711.wr W709
  have ne728 : sa ≠ b721 := Nat.ne_of_lt (by rw [eb722]; exact f727.lt)
  have f729 := Et.ext E696
  have f730 := f729.wr W709
  have ne731 : ta ≠ b721 := Nat.ne_of_lt (by rw [eb722]; exact f730.lt)
  have f732 := A697.other W709 (Ne.symm ne702)
  have ne733 : b698 ≠ b721 := Nat.ne_of_lt (by rw [eb722]; exact f732.lt)
  have z735 : n0 ≤ h695.size := Nat.le_trans Z0 E696.1
  have z736 : n0 ≤ h708.size := Nat.le_trans z735 (Nat.le_of_eq W709.size.symm)
  have g734 : n0 ≤ b721 := by rw [eb722]; exact z736
  show own_Ends _ _ _ _ (T716.setTop (mkF m 88 #[rv r0, iv 0] [(.ref b721), (.int 0), (.ref ta)]))
  have f737 := At_.ext E696
  have f738 := f737.other W709 (Ne.symm nst)
  have f739 := f738.ext E719
  have f745 := f730.ext E719
  refine own_stR Y717 hx hZ f739 rfl gt (i := 0) (own_sto (own_w hw 15 rfl) f745 X723) (by decide) (by decide) (by decide) rfl rfl (hb hby d31_88) (fun T740 h742 Y741 W743 A744 => ?_)
  show own_Ends _ _ _ _ (T740.setTop (mkF m 89 #[rv r0, iv 0] []))
  refine o_aloadN Y741 hx hby d31_89 rfl rfl ?_
  have f746 := Fb_weights.ext E696
  have f747 := f746.other W709 (Or.inl (Ne.symm nsr))
  have f748 := f747.ext E719
  have f749 := f748.other W743 (Or.inl (Ne.symm ntr))
  refine p_getF Y741 hx hZ hown (host := "") (Or.inl (own_w hw 100 rfl)) Via.refl f749 hby rfl d31_90 (fun T750 Y751 => ?_)
  refine o_ifnullYes Y751 hx hby (pc' := 107) d31_93 rfl (by decide) (by decide) ?_
  have K752 : Keep h0 h695 [sa, ta] := (Keep.refl h0 [sa, ta]).ext E696
  have K753 : Keep h0 h708 [sa, ta] := K752.wr W709 (Or.inl (List.mem_of_getElem? (i := 0) rfl))
  have K754 : Keep h0 h718 [sa, ta] := K753.ext E719
  have K755 : Keep h0 h742 [sa, ta] := K754.wr W743 (Or.inl (List.mem_of_getElem? (i := 1) rfl))
  have f756 := f732.ext E719
  have f757 := f756.other W743 (Ne.symm ne703)
  have f758 := A720.other W743 (Ne.symm ne731)
  have f759 := A710.ext E719
  have f760 := f759.other W743 nst
  refine own_retV Y751 hx hlk hret (hb hby d31_107) (by decide) (by decide) ?_
  obtain ⟨S, lS, AS⟩ := own_zA f757
  obtain ⟨T, lT, AT⟩ := own_zA f758
  exact ⟨_, _, S, T, lS, lT, rfl, K755, f760, A744, AS, AT, (by rw [eb699]; exact (Keep.refl h0 [sa, ta]).1), (by rw [eb722]; exact K753.1), ne733⟩
def bc30 : ByteArray := prog_45_method_16_code
theorem d30_0 : decode bc30 0 = .ok (.aload_n 0, 1) := by decide +kernel
theorem d30_1 : decode bc30 1 = .ok (.getfield 180, 3) := by decide +kernel
theorem d30_4 : decode bc30 4 = .ok (.istore 5, 2) := by decide +kernel
theorem d30_6 : decode bc30 6 = .ok (.iload 5, 2) := by decide +kernel
theorem d30_8 : decode bc30 8 = .ok (.aload_n 0, 1) := by decide +kernel
theorem d30_9 : decode bc30 9 = .ok (.getfield 57, 3) := by decide +kernel
theorem d30_12 : decode bc30 12 = .ok (.if_icmp .ne 34, 3) := by decide +kernel
theorem d30_46 : decode bc30 46 = .ok (.iload 5, 2) := by decide +kernel
theorem d30_48 : decode bc30 48 = .ok (.sipush 8191, 3) := by decide +kernel
theorem d30_51 : decode bc30 51 = .ok (.iand, 1) := by decide +kernel
theorem d30_52 : decode bc30 52 = .ok (.ifCond .ne 12, 3) := by decide +kernel
theorem d30_55 : decode bc30 55 = .ok (.aload_n 0, 1) := by decide +kernel
theorem d30_56 : decode bc30 56 = .ok (.iload 5, 2) := by decide +kernel
theorem d30_58 : decode bc30 58 = .ok (.bipush 13, 2) := by decide +kernel
theorem d30_60 : decode bc30 60 = .ok (.iushr, 1) := by decide +kernel
theorem d30_61 : decode bc30 61 = .ok (.invokevirtual 193, 3) := by decide +kernel
theorem d30_64 : decode bc30 64 = .ok (.aload_n 0, 1) := by decide +kernel
theorem d30_65 : decode bc30 65 = .ok (.lload_n 1, 1) := by decide +kernel
theorem d30_66 : decode bc30 66 = .ok (.invokevirtual 91, 3) := by decide +kernel
theorem d30_69 : decode bc30 69 = .ok (.istore 6, 2) := by decide +kernel
theorem d30_71 : decode bc30 71 = .ok (.aload_n 0, 1) := by decide +kernel
theorem d30_72 : decode bc30 72 = .ok (.lload_n 3, 1) := by decide +kernel
theorem d30_73 : decode bc30 73 = .ok (.invokevirtual 91, 3) := by decide +kernel
theorem d30_76 : decode bc30 76 = .ok (.istore 7, 2) := by decide +kernel
theorem d30_78 : decode bc30 78 = .ok (.aload_n 0, 1) := by decide +kernel
theorem d30_79 : decode bc30 79 = .ok (.getfield 20, 3) := by decide +kernel
theorem d30_82 : decode bc30 82 = .ok (.iload 5, 2) := by decide +kernel
theorem d30_84 : decode bc30 84 = .ok (.bipush 13, 2) := by decide +kernel
theorem d30_86 : decode bc30 86 = .ok (.iushr, 1) := by decide +kernel
theorem d30_87 : decode bc30 87 = .ok (.aaload, 1) := by decide +kernel
theorem d30_88 : decode bc30 88 = .ok (.iload 5, 2) := by decide +kernel
theorem d30_90 : decode bc30 90 = .ok (.sipush 8191, 3) := by decide +kernel
theorem d30_93 : decode bc30 93 = .ok (.iand, 1) := by decide +kernel
theorem d30_94 : decode bc30 94 = .ok (.iload 6, 2) := by decide +kernel
theorem d30_96 : decode bc30 96 = .ok (.iastore, 1) := by decide +kernel
theorem d30_97 : decode bc30 97 = .ok (.aload_n 0, 1) := by decide +kernel
theorem d30_98 : decode bc30 98 = .ok (.getfield 24, 3) := by decide +kernel
theorem d30_101 : decode bc30 101 = .ok (.iload 5, 2) := by decide +kernel
theorem d30_103 : decode bc30 103 = .ok (.bipush 13, 2) := by decide +kernel
theorem d30_105 : decode bc30 105 = .ok (.iushr, 1) := by decide +kernel
theorem d30_106 : decode bc30 106 = .ok (.aaload, 1) := by decide +kernel
theorem d30_107 : decode bc30 107 = .ok (.iload 5, 2) := by decide +kernel
theorem d30_109 : decode bc30 109 = .ok (.sipush 8191, 3) := by decide +kernel
theorem d30_112 : decode bc30 112 = .ok (.iand, 1) := by decide +kernel
theorem d30_113 : decode bc30 113 = .ok (.iload 7, 2) := by decide +kernel
theorem d30_115 : decode bc30 115 = .ok (.iastore, 1) := by decide +kernel
theorem d30_116 : decode bc30 116 = .ok (.aload_n 0, 1) := by decide +kernel
theorem d30_117 : decode bc30 117 = .ok (.dup, 1) := by decide +kernel
theorem d30_118 : decode bc30 118 = .ok (.getfield 180, 3) := by decide +kernel
theorem d30_121 : decode bc30 121 = .ok (.iconst 1, 1) := by decide +kernel
theorem d30_122 : decode bc30 122 = .ok (.iadd, 1) := by decide +kernel
theorem d30_123 : decode bc30 123 = .ok (.putfield 180, 3) := by decide +kernel
theorem d30_126 : decode bc30 126 = .ok (.iload 5, 2) := by decide +kernel
theorem d30_128 : decode bc30 128 = .ok (.ireturn, 1) := by decide +kernel
theorem own_ef_own_rm30_0 (m : MethodId) (r0 : Addr) (x1 : Int64) (x2 : Int64) : entryFrame m #[(.ref r0), (.long x1), (.long x2)] 8 = mkF m 0 #[rv r0, .val (.long x1), .second, .val (.long x2), .second, .unset, .unset, .unset] [] := by first | (simp [entryFrame, mkF, argsToLocals, Value.category]; done) | rfl
def own_Q_own_rm30_0 (Z : State) (r0 sa ta ix el : Addr) (y1 y2 : Int32) (h0 : Heap) (n0 : Nat) (v : Option Value) (h : Heap) : Prop := ∃ (bs bt : Addr) (S T : List Int32), S.length = 8192 ∧ T.length = 8192 ∧ v = some (.int 0) ∧ Keep h0 h [r0, sa, ta] ∧ Exa Z h r0 "kombos/graph/Graph$Builder" ∧ Fld Z h r0 "kombos/graph/Graph$Builder" "sources" "[[I" (.ref sa) ∧ Fld Z h r0 "kombos/graph/Graph$Builder" "targets" "[[I" (.ref ta) ∧ Fld Z h r0 "kombos/graph/Graph$Builder" "vertexColumns" "Ljava/util/List;" (.ref el) ∧ Fld Z h r0 "kombos/graph/Graph$Builder" "edgeColumns" "Ljava/util/List;" (.ref el) ∧ Fld Z h r0 "kombos/graph/Graph$Builder" "directed" "Z" (.int 0) ∧ Fld Z h r0 "kombos/graph/Graph$Builder" "maxVertices" "I" (.int 536870912) ∧ Fld Z h r0 "kombos/graph/Graph$Builder" "index" "Lkombos/graph/IdIndex;" (.ref ix) ∧ Fld Z h r0 "kombos/graph/Graph$Builder" "maxEdges" "I" (.int 1073741819) ∧ Fld Z h r0 "kombos/graph/Graph$Builder" "keys" "Lkombos/graph/KeyIndex;" .null ∧ Fld Z h r0 "kombos/graph/Graph$Builder" "edgeCount" "I" (.int 1) ∧ Fld Z h r0 "kombos/graph/Graph$Builder" "weights" "[[J" .null ∧ Fld Z h r0 "kombos/graph/Graph$Builder" "decimal" "Z" (.int 0) ∧ own_A Z h sa (.array .int) ((List.replicate 16 .null).set 0 (.ref bs)) ∧ own_A Z h ta (.array .int) ((List.replicate 16 .null).set 0 (.ref bt)) ∧ own_A Z h bs .int ((S.set 0 y1).map Value.int) ∧ own_A Z h bt .int ((T.set 0 y2).map Value.int) ∧ h0.size ≤ bs ∧ h0.size ≤ bt ∧ bs ≠ bt
set_option maxRecDepth 65536 in
set_option maxHeartbeats 40000000 in
theorem own_rm30_0 (l : Launch) (Z : State) (a0 : Array Value) (hw : ∀ d ∈ tables_1, d.before a0 Z = true) (ws : List Jvm.Cond) (r0 : Addr) (x1 : Int64) (x2 : Int64) (sa ta ix el : Addr) (y1 y2 : Int32) (h0 : Heap) (n0 : Nat) (Z0 : n0 ≤ h0.size) (Eb : Exa Z h0 r0 "kombos/graph/Graph$Builder") (Fb_sources : Fld Z h0 r0 "kombos/graph/Graph$Builder" "sources" "[[I" (.ref sa)) (Fb_targets : Fld Z h0 r0 "kombos/graph/Graph$Builder" "targets" "[[I" (.ref ta)) (Fb_vertexColumns : Fld Z h0 r0 "kombos/graph/Graph$Builder" "vertexColumns" "Ljava/util/List;" (.ref el)) (Fb_edgeColumns : Fld Z h0 r0 "kombos/graph/Graph$Builder" "edgeColumns" "Ljava/util/List;" (.ref el)) (Fb_directed : Fld Z h0 r0 "kombos/graph/Graph$Builder" "directed" "Z" (.int 0)) (Fb_maxVertices : Fld Z h0 r0 "kombos/graph/Graph$Builder" "maxVertices" "I" (.int 536870912)) (Fb_index : Fld Z h0 r0 "kombos/graph/Graph$Builder" "index" "Lkombos/graph/IdIndex;" (.ref ix)) (Fb_maxEdges : Fld Z h0 r0 "kombos/graph/Graph$Builder" "maxEdges" "I" (.int 1073741819)) (Fb_keys : Fld Z h0 r0 "kombos/graph/Graph$Builder" "keys" "Lkombos/graph/KeyIndex;" .null) (Fb_edgeCount : Fld Z h0 r0 "kombos/graph/Graph$Builder" "edgeCount" "I" (.int 0)) (Fb_weights : Fld Z h0 r0 "kombos/graph/Graph$Builder" "weights" "[[J" .null) (Fb_decimal : Fld Z h0 r0 "kombos/graph/Graph$Builder" "decimal" "Z" (.int 0)) (Ex : Exa Z h0 ix "kombos/graph/IdIndex") (Fx_maxSize : Fld Z h0 ix "kombos/graph/IdIndex" "maxSize" "I" (.int 536870912)) (Fx_ids : Fld Z h0 ix "kombos/graph/IdIndex" "ids" "[J" .null) (Fx_first : Fld Z h0 ix "kombos/graph/IdIndex" "first" "J" (.long 0)) (Fx_direct : Fld Z h0 ix "kombos/graph/IdIndex" "direct" "[I" .null) (Fx_slots : Fld Z h0 ix "kombos/graph/IdIndex" "slots" "[I" .null) (Fx_size : Fld Z h0 ix "kombos/graph/IdIndex" "size" "I" (.int 3)) (nsr : sa ≠ r0) (ntr : ta ≠ r0) (nir : ix ≠ r0) (nsi : sa ≠ ix) (nti : ta ≠ ix) (g : n0 ≤ r0) (p0 : 0 ≤ x1.toInt) (p1 : x1.toInt < 3) (q0 : 0 ≤ x2.toInt) (q1 : x2.toInt < 3) (hy1 : x1.toInt32 = y1) (hy2 : x2.toInt32 = y2) (Es : Exa Z h0 sa "[[I") (As : own_A Z h0 sa (.array .int) (List.replicate 16 .null)) (Et : Exa Z h0 ta "[[I") (At_ : own_A Z h0 ta (.array .int) (List.replicate 16 .null)) (gs : n0 ≤ sa) (gt : n0 ≤ ta) (nst : sa ≠ ta) :
    own_Con l Z (⟨"kombos/graph/Graph$Builder", "add", "(JJ)I"⟩ : MethodName) prog_45_method_16_code 8 (some .int) ws ({ frames := 3, cells := 2, slots := 16384, locals := 45 } : Room) #[(.ref r0), (.long x1), (.long x2)] h0 n0 (own_Q_own_rm30_0 Z r0 sa ta ix el y1 y2 h0 n0) := by
  refine own_body (plainFor_of_name own_pn1) ?_
  intro p e s m below meth c T0 hx hZ hby hml hown hnm hret hlk Y0
  replace hown : s.vm.findClass "kombos/graph/Graph$Builder" = some m.cls := hown
  replace hnm : meth.name = "add" := hnm
  rw [own_ef_own_rm30_0 m r0 x1 x2]
  show own_Ends _ _ _ _ (T0.setTop (mkF m 0 #[rv r0, .val (.long x1), .second, .val (.long x2), .second, .unset, .unset, .unset] []))
  refine o_aloadN Y0 hx hby d30_0 rfl rfl ?_
  refine p_getF Y0 hx hZ hown (host := "") (Or.inl (own_w hw 97 rfl)) Via.refl Fb_edgeCount hby rfl d30_1 (fun T761 Y762 => ?_)
  refine o_istore Y762 hx hby d30_4 rfl (l' := #[rv r0, .val (.long x1), .second, .val (.long x2), .second, iv 0, .unset, .unset]) rfl ?_
  refine o_iload Y762 hx hby d30_6 rfl ?_
  refine o_aloadN Y762 hx hby d30_8 rfl rfl ?_
  refine p_getF Y762 hx hZ hown (host := "") (Or.inl (own_w hw 45 rfl)) Via.refl Fb_maxEdges hby rfl d30_9 (fun T763 Y764 => ?_)
  refine o_icmpYes Y764 hx hby (pc' := 46) d30_12 rfl (XT.ii_ne_t (by decide)) (by decide) (by decide) ?_
  refine o_iload Y764 hx hby d30_46 rfl ?_
  refine o_sipush Y764 hx hby d30_48 (x := 8191) rfl ?_
  refine o_iand Y764 hx hby d30_51 rfl (z := 0) rfl ?_
  refine o_ifNo Y764 hx hby d30_52 rfl (XT.i0_ne_f (by decide)) ?_
  refine o_aloadN Y764 hx hby d30_55 rfl rfl ?_
  refine o_iload Y764 hx hby d30_56 rfl ?_
  refine o_bipush Y764 hx hby d30_58 (x := 13) rfl ?_
  refine own_st (fun t_ => XS.iushr (own_here Y764) hx rfl (hb hby d30_60) rfl) ?_
  show own_Ends _ _ _ _ (T763.setTop (mkF m 61 #[rv r0, .val (.long x1), .second, .val (.long x2), .second, iv 0, .unset, .unset] [(.int 0), (.ref r0)]))
  refine own_callP Y764 hx hZ (y := (⟨"kombos/graph/Graph$Builder", "startBlock", "(I)V"⟩ : MethodName)) hown (own_w hw 260 rfl) (own_w hw 261 rfl) (own_w hw 1 rfl) (own_w hw 262 rfl) (own_w hw 2 rfl) (own_w hw 263 rfl) (by decide) (a := r0) Eb (argsL := [(.int 0)]) (rest := []) (own_rm31 l Z a0 hw [] r0 sa ta h0 n0 Z0 Eb Fb_sources Fb_targets Fb_weights Es As Et At_ gs gt nst nsr ntr) (W := 0) (by decide) (by decide) (by decide) (by decide) rfl (by rw [hml]; rfl) (lenOf own_pd2 rfl) rfl (by show 2 * 0 + _ ≤ _; exact Nat.le_of_eq rfl) (hb hby d30_61) (fun T765 h767 v768 Y766 q769 => ?_)
  obtain ⟨bs, bt, S, T, lS, lT, rfl, K770, F771, F772, F773, F774, hz775, hz776, ne777⟩ := q769
  have ne778 : r0 ≠ bs := Nat.ne_of_lt (Nat.lt_of_lt_of_le Eb.lt hz775)
  have ne779 : ix ≠ bs := Nat.ne_of_lt (Nat.lt_of_lt_of_le Ex.lt hz775)
  have ne780 : sa ≠ bs := Nat.ne_of_lt (Nat.lt_of_lt_of_le Es.lt hz775)
  have ne781 : ta ≠ bs := Nat.ne_of_lt (Nat.lt_of_lt_of_le Et.lt hz775)
  have g782 : n0 ≤ bs := Nat.le_trans Z0 hz775
  have ne783 : r0 ≠ bt := Nat.ne_of_lt (Nat.lt_of_lt_of_le Eb.lt hz776)
  have ne784 : ix ≠ bt := Nat.ne_of_lt (Nat.lt_of_lt_of_le Ex.lt hz776)
  have ne785 : sa ≠ bt := Nat.ne_of_lt (Nat.lt_of_lt_of_le Es.lt hz776)
  have ne786 : ta ≠ bt := Nat.ne_of_lt (Nat.lt_of_lt_of_le Et.lt hz776)
  have g787 : n0 ≤ bt := Nat.le_trans Z0 hz776
  show own_Ends _ _ _ _ (T765.setTop (mkF m 64 #[rv r0, .val (.long x1), .second, .val (.long x2), .second, iv 0, .unset, .unset] []))
  refine o_aloadN Y766 hx hby d30_64 rfl rfl ?_
  refine o_lloadN Y766 hx hby d30_65 rfl ?_
  have f788 := Eb.keep K770
  have f789 := Fb_index.keep K770 (ninS (Ne.symm nsr) (ninS (Ne.symm ntr) nin0))
  have f790 := Fb_keys.keep K770 (ninS (Ne.symm nsr) (ninS (Ne.symm ntr) nin0))
  have f791 := Ex.keep K770
  have f792 := Fx_maxSize.keep K770 (ninS (Ne.symm nsi) (ninS (Ne.symm nti) nin0))
  have f793 := Fx_ids.keep K770 (ninS (Ne.symm nsi) (ninS (Ne.symm nti) nin0))
  have f794 := Fx_first.keep K770 (ninS (Ne.symm nsi) (ninS (Ne.symm nti) nin0))
  have f795 := Fx_direct.keep K770 (ninS (Ne.symm nsi) (ninS (Ne.symm nti) nin0))
  have f796 := Fx_slots.keep K770 (ninS (Ne.symm nsi) (ninS (Ne.symm nti) nin0))
  have f797 := Fx_size.keep K770 (ninS (Ne.symm nsi) (ninS (Ne.symm nti) nin0))
  refine own_callP Y766 hx hZ (y := (⟨"kombos/graph/Graph$Builder", "vertexOf", "(J)I"⟩ : MethodName)) hown (own_w hw 52 rfl) (own_w hw 53 rfl) (own_w hw 1 rfl) (own_w hw 54 rfl) (own_w hw 2 rfl) (own_w hw 55 rfl) (by decide) (a := r0) f788 (argsL := [(.long x1)]) (rest := []) (own_rm7_f l Z a0 hw [] r0 x1 ix h767 n0  f788 f789 f790 f791 f792 f793 f794 f795 f796 f797 p0 p1) (W := 0) (by decide) (by decide) (by decide) (by decide) rfl (by rw [hml]; rfl) (lenOf own_pd0 rfl) rfl (by show 2 * 0 + _ ≤ _; exact Nat.le_of_eq rfl) (hb hby d30_66) (fun T798 h800 v801 Y799 q802 => ?_)
  obtain ⟨rfl, rfl⟩ := q802
  show own_Ends _ _ _ _ (T798.setTop (mkF m 69 #[rv r0, .val (.long x1), .second, .val (.long x2), .second, iv 0, .unset, .unset] [(.int (x1.toInt32))]))
  refine o_istore Y799 hx hby d30_69 rfl (l' := #[rv r0, .val (.long x1), .second, .val (.long x2), .second, iv 0, iv (x1.toInt32), .unset]) rfl ?_
  refine o_aloadN Y799 hx hby d30_71 rfl rfl ?_
  refine o_lloadN Y799 hx hby d30_72 rfl ?_
  refine own_callP Y799 hx hZ (y := (⟨"kombos/graph/Graph$Builder", "vertexOf", "(J)I"⟩ : MethodName)) hown (own_w hw 52 rfl) (own_w hw 53 rfl) (own_w hw 1 rfl) (own_w hw 54 rfl) (own_w hw 2 rfl) (own_w hw 55 rfl) (by decide) (a := r0) f788 (argsL := [(.long x2)]) (rest := []) (own_rm7_f l Z a0 hw [] r0 x2 ix h767 n0  f788 f789 f790 f791 f792 f793 f794 f795 f796 f797 q0 q1) (W := 0) (by decide) (by decide) (by decide) (by decide) rfl (by rw [hml]; rfl) (lenOf own_pd0 rfl) rfl (by show 2 * 0 + _ ≤ _; exact Nat.le_of_eq rfl) (hb hby d30_73) (fun T803 h805 v806 Y804 q807 => ?_)
  obtain ⟨rfl, rfl⟩ := q807
  show own_Ends _ _ _ _ (T803.setTop (mkF m 76 #[rv r0, .val (.long x1), .second, .val (.long x2), .second, iv 0, iv (x1.toInt32), .unset] [(.int (x2.toInt32))]))
  refine o_istore Y804 hx hby d30_76 rfl (l' := #[rv r0, .val (.long x1), .second, .val (.long x2), .second, iv 0, iv (x1.toInt32), iv (x2.toInt32)]) rfl ?_
  refine o_aloadN Y804 hx hby d30_78 rfl rfl ?_
  have f808 := Fb_sources.keep K770 (ninS (Ne.symm nsr) (ninS (Ne.symm ntr) nin0))
  refine p_getF Y804 hx hZ hown (host := "") (Or.inl (own_w hw 16 rfl)) Via.refl f808 hby rfl d30_79 (fun T809 Y810 => ?_)
  refine o_iload Y810 hx hby d30_82 rfl ?_
  refine o_bipush Y810 hx hby d30_84 (x := 13) rfl ?_
  refine own_st (fun t_ => XS.iushr (own_here Y810) hx rfl (hb hby d30_86) rfl) ?_
  show own_Ends _ _ _ _ (T809.setTop (mkF m 87 #[rv r0, .val (.long x1), .second, .val (.long x2), .second, iv 0, iv (x1.toInt32), iv (x2.toInt32)] [(.int 0), (.ref sa)]))
  refine p_ldR Y810 hx hZ F771 rfl (i := 0) (by decide) (by decide) (by simp) (v := (.ref bs)) rfl hby rfl d30_87 ?_
  refine o_iload Y810 hx hby d30_88 rfl ?_
  refine o_sipush Y810 hx hby d30_90 (x := 8191) rfl ?_
  refine o_iand Y810 hx hby d30_93 rfl (z := 0) rfl ?_
  refine o_iload Y810 hx hby d30_94 rfl ?_
  refine p_stI Y810 hx hZ F773 g782 (i := 0) (by decide) (by decide) (by simp [lS]) hby rfl d30_96 (fun T811 h813 Y812 W814 A815 => ?_)
  refine o_aloadN Y812 hx hby d30_97 rfl rfl ?_
  have f816 := Fb_targets.keep K770 (ninS (Ne.symm nsr) (ninS (Ne.symm ntr) nin0))
  have f817 := f816.other W814 (Or.inl ne778)
  refine p_getF Y812 hx hZ hown (host := "") (Or.inl (own_w hw 18 rfl)) Via.refl f817 hby rfl d30_98 (fun T818 Y819 => ?_)
  refine o_iload Y819 hx hby d30_101 rfl ?_
  refine o_bipush Y819 hx hby d30_103 (x := 13) rfl ?_
  refine own_st (fun t_ => XS.iushr (own_here Y819) hx rfl (hb hby d30_105) rfl) ?_
  show own_Ends _ _ _ _ (T818.setTop (mkF m 106 #[rv r0, .val (.long x1), .second, .val (.long x2), .second, iv 0, iv (x1.toInt32), iv (x2.toInt32)] [(.int 0), (.ref ta)]))
  have f820 := F772.other W814 ne781
  refine p_ldR Y819 hx hZ f820 rfl (i := 0) (by decide) (by decide) (by simp) (v := (.ref bt)) rfl hby rfl d30_106 ?_
  refine o_iload Y819 hx hby d30_107 rfl ?_
  refine o_sipush Y819 hx hby d30_109 (x := 8191) rfl ?_
  refine o_iand Y819 hx hby d30_112 rfl (z := 0) rfl ?_
  refine o_iload Y819 hx hby d30_113 rfl ?_
  have f821 := F774.other W814 (Ne.symm ne777)
  refine p_stI Y819 hx hZ f821 g787 (i := 0) (by decide) (by decide) (by simp [lT]) hby rfl d30_115 (fun T822 h824 Y823 W825 A826 => ?_)
  refine o_aloadN Y823 hx hby d30_116 rfl rfl ?_
  refine o_dup Y823 hx hby d30_117 rfl rfl ?_
  have f827 := Fb_edgeCount.keep K770 (ninS (Ne.symm nsr) (ninS (Ne.symm ntr) nin0))
  have f828 := f827.other W814 (Or.inl ne778)
  have f829 := f828.other W825 (Or.inl ne783)
  refine p_getF Y823 hx hZ hown (host := "") (Or.inl (own_w hw 97 rfl)) Via.refl f829 hby rfl d30_118 (fun T830 Y831 => ?_)
  refine o_iconst Y831 hx hby d30_121 (x := 1) rfl ?_
  refine o_iadd Y831 hx hby d30_122 rfl (z := 1) rfl ?_
  have f832 := f788.wr W814
  have f833 := f832.wr W825
  refine p_putF Y831 hx hZ hown (host := "") (Or.inl (own_w hw 97 rfl)) Via.refl f829 f833 (Or.inl (own_w hw 98 rfl)) (own_w hw 1 rfl) g (ty := .int) (by decide) rfl rfl hby rfl d30_123 (fun T834 h836 Y835 W837 F838 => ?_)
  refine o_iload Y835 hx hby d30_126 rfl ?_
  have K839 : Keep h0 h767 [r0, sa, ta] := (Keep.refl h0 [r0, sa, ta]).trans K770 (allS (Or.inl (List.mem_of_getElem? (i := 1) rfl)) (allS (Or.inl (List.mem_of_getElem? (i := 2) rfl)) all0))
  have K840 : Keep h0 h813 [r0, sa, ta] := K839.wr W814 (Or.inr (Nat.le_trans (Keep.refl h0 [r0, sa, ta]).1 hz775))
  have K841 : Keep h0 h824 [r0, sa, ta] := K840.wr W825 (Or.inr (Nat.le_trans (Keep.refl h0 [r0, sa, ta]).1 hz776))
  have K842 : Keep h0 h836 [r0, sa, ta] := K841.wr W837 (Or.inl (List.mem_of_getElem? (i := 0) rfl))
  have f843 := f833.wr W837
  have f844 := f808.other W814 (Or.inl ne778)
  have f845 := f844.other W825 (Or.inl ne783)
  have f846 := own_sn f845 W837 (own_wl hw 17 rfl) (own_wl hw 98 rfl) (by decide) own_f4 own_f1
  have f847 := f817.other W825 (Or.inl ne783)
  have f848 := own_sn f847 W837 (own_wl hw 19 rfl) (own_wl hw 98 rfl) (by decide) own_f4 own_f1
  have f849 := Fb_vertexColumns.keep K770 (ninS (Ne.symm nsr) (ninS (Ne.symm ntr) nin0))
  have f850 := f849.other W814 (Or.inl ne778)
  have f851 := f850.other W825 (Or.inl ne783)
  have f852 := own_sn f851 W837 (own_wl hw 27 rfl) (own_wl hw 98 rfl) (by decide) own_f5 own_f1
  have f853 := Fb_edgeColumns.keep K770 (ninS (Ne.symm nsr) (ninS (Ne.symm ntr) nin0))
  have f854 := f853.other W814 (Or.inl ne778)
  have f855 := f854.other W825 (Or.inl ne783)
  have f856 := own_sn f855 W837 (own_wl hw 29 rfl) (own_wl hw 98 rfl) (by decide) own_f5 own_f1
  have f857 := Fb_directed.keep K770 (ninS (Ne.symm nsr) (ninS (Ne.symm ntr) nin0))
  have f858 := f857.other W814 (Or.inl ne778)
  have f859 := f858.other W825 (Or.inl ne783)
  have f860 := own_sn f859 W837 (own_wf hw 31 rfl) (own_wl hw 98 rfl) (by decide) own_f6 own_f1
  have f861 := Fb_maxVertices.keep K770 (ninS (Ne.symm nsr) (ninS (Ne.symm ntr) nin0))
  have f862 := f861.other W814 (Or.inl ne778)
  have f863 := f862.other W825 (Or.inl ne783)
  have f864 := own_sn f863 W837 (own_wf hw 33 rfl) (own_wl hw 98 rfl) (by decide) own_f1 own_f1
  have f865 := f789.other W814 (Or.inl ne778)
  have f866 := f865.other W825 (Or.inl ne783)
  have f867 := own_sn f866 W837 (own_wf hw 44 rfl) (own_wl hw 98 rfl) (by decide) own_f7 own_f1
  have f868 := Fb_maxEdges.keep K770 (ninS (Ne.symm nsr) (ninS (Ne.symm ntr) nin0))
  have f869 := f868.other W814 (Or.inl ne778)
  have f870 := f869.other W825 (Or.inl ne783)
  have f871 := own_sn f870 W837 (own_wf hw 46 rfl) (own_wl hw 98 rfl) (by decide) own_f1 own_f1
  have f872 := f790.other W814 (Or.inl ne778)
  have f873 := f872.other W825 (Or.inl ne783)
  have f874 := own_sn f873 W837 (own_wl hw 57 rfl) (own_wl hw 98 rfl) (by decide) own_f8 own_f1
  have f875 := Fb_weights.keep K770 (ninS (Ne.symm nsr) (ninS (Ne.symm ntr) nin0))
  have f876 := f875.other W814 (Or.inl ne778)
  have f877 := f876.other W825 (Or.inl ne783)
  have f878 := own_sn f877 W837 (own_wl hw 101 rfl) (own_wl hw 98 rfl) (by decide) own_f9 own_f1
  have f879 := Fb_decimal.keep K770 (ninS (Ne.symm nsr) (ninS (Ne.symm ntr) nin0))
  have f880 := f879.other W814 (Or.inl ne778)
  have f881 := f880.other W825 (Or.inl ne783)
  have f882 := own_sn f881 W837 (own_wl hw 137 rfl) (own_wl hw 98 rfl) (by decide) own_f6 own_f1
  have f885 := A815.other W825 ne777
  have f886 := f885.other W837 (Ne.symm ne778)
  have f887 := A826.other W837 (Ne.symm ne783)
  have f888 := F771.other W814 ne780
  have f889 := f888.other W825 ne785
  have f890 := f889.other W837 nsr
  have f891 := f820.other W825 ne786
  have f892 := f891.other W837 ntr
  refine own_retI Y835 hx hlk hret (hb hby d30_128) (by decide) (by decide) ?_
  subst hy1 hy2
  have q883 : own_A Z h836 bs .int ((S.set 0 x1.toInt32).map Value.int) := by have q := f886; simpa only [List.map_set] using q
  have q884 : own_A Z h836 bt .int ((T.set 0 x2.toInt32).map Value.int) := by have q := f887; simpa only [List.map_set] using q
  exact ⟨_, _, S, T, lS, lT, rfl, K842, f843, f846, f848, f852, f856, f860, f864, f867, f871, f874, F838, f878, f882, f890, f892, q883, q884, (Nat.le_trans (Keep.refl h0 [r0, sa, ta]).1 hz775), (Nat.le_trans (Keep.refl h0 [r0, sa, ta]).1 hz776), ne777⟩
theorem own_ef_own_rm30_1 (m : MethodId) (r0 : Addr) (x1 : Int64) (x2 : Int64) : entryFrame m #[(.ref r0), (.long x1), (.long x2)] 8 = mkF m 0 #[rv r0, .val (.long x1), .second, .val (.long x2), .second, .unset, .unset, .unset] [] := by first | (simp [entryFrame, mkF, argsToLocals, Value.category]; done) | rfl
def own_Q_own_rm30_1 (Z : State) (r0 sa ta ix el : Addr) (y1 y2 : Int32) (bs bt : Addr) (S T : List Int32) (h0 : Heap) (n0 : Nat) (v : Option Value) (h : Heap) : Prop := v = some (.int 1) ∧ Keep h0 h [r0, bs, bt] ∧ Exa Z h r0 "kombos/graph/Graph$Builder" ∧ Fld Z h r0 "kombos/graph/Graph$Builder" "sources" "[[I" (.ref sa) ∧ Fld Z h r0 "kombos/graph/Graph$Builder" "targets" "[[I" (.ref ta) ∧ Fld Z h r0 "kombos/graph/Graph$Builder" "vertexColumns" "Ljava/util/List;" (.ref el) ∧ Fld Z h r0 "kombos/graph/Graph$Builder" "edgeColumns" "Ljava/util/List;" (.ref el) ∧ Fld Z h r0 "kombos/graph/Graph$Builder" "directed" "Z" (.int 0) ∧ Fld Z h r0 "kombos/graph/Graph$Builder" "maxVertices" "I" (.int 536870912) ∧ Fld Z h r0 "kombos/graph/Graph$Builder" "index" "Lkombos/graph/IdIndex;" (.ref ix) ∧ Fld Z h r0 "kombos/graph/Graph$Builder" "maxEdges" "I" (.int 1073741819) ∧ Fld Z h r0 "kombos/graph/Graph$Builder" "keys" "Lkombos/graph/KeyIndex;" .null ∧ Fld Z h r0 "kombos/graph/Graph$Builder" "edgeCount" "I" (.int 2) ∧ Fld Z h r0 "kombos/graph/Graph$Builder" "weights" "[[J" .null ∧ Fld Z h r0 "kombos/graph/Graph$Builder" "decimal" "Z" (.int 0) ∧ own_A Z h bs .int ((S.set 1 y1).map Value.int) ∧ own_A Z h bt .int ((T.set 1 y2).map Value.int)
set_option maxRecDepth 65536 in
set_option maxHeartbeats 40000000 in
theorem own_rm30_1 (l : Launch) (Z : State) (a0 : Array Value) (hw : ∀ d ∈ tables_1, d.before a0 Z = true) (ws : List Jvm.Cond) (r0 : Addr) (x1 : Int64) (x2 : Int64) (sa ta ix el : Addr) (y1 y2 : Int32) (bs bt : Addr) (S T : List Int32) (h0 : Heap) (n0 : Nat)  (Eb : Exa Z h0 r0 "kombos/graph/Graph$Builder") (Fb_sources : Fld Z h0 r0 "kombos/graph/Graph$Builder" "sources" "[[I" (.ref sa)) (Fb_targets : Fld Z h0 r0 "kombos/graph/Graph$Builder" "targets" "[[I" (.ref ta)) (Fb_vertexColumns : Fld Z h0 r0 "kombos/graph/Graph$Builder" "vertexColumns" "Ljava/util/List;" (.ref el)) (Fb_edgeColumns : Fld Z h0 r0 "kombos/graph/Graph$Builder" "edgeColumns" "Ljava/util/List;" (.ref el)) (Fb_directed : Fld Z h0 r0 "kombos/graph/Graph$Builder" "directed" "Z" (.int 0)) (Fb_maxVertices : Fld Z h0 r0 "kombos/graph/Graph$Builder" "maxVertices" "I" (.int 536870912)) (Fb_index : Fld Z h0 r0 "kombos/graph/Graph$Builder" "index" "Lkombos/graph/IdIndex;" (.ref ix)) (Fb_maxEdges : Fld Z h0 r0 "kombos/graph/Graph$Builder" "maxEdges" "I" (.int 1073741819)) (Fb_keys : Fld Z h0 r0 "kombos/graph/Graph$Builder" "keys" "Lkombos/graph/KeyIndex;" .null) (Fb_edgeCount : Fld Z h0 r0 "kombos/graph/Graph$Builder" "edgeCount" "I" (.int 1)) (Fb_weights : Fld Z h0 r0 "kombos/graph/Graph$Builder" "weights" "[[J" .null) (Fb_decimal : Fld Z h0 r0 "kombos/graph/Graph$Builder" "decimal" "Z" (.int 0)) (Ex : Exa Z h0 ix "kombos/graph/IdIndex") (Fx_maxSize : Fld Z h0 ix "kombos/graph/IdIndex" "maxSize" "I" (.int 536870912)) (Fx_ids : Fld Z h0 ix "kombos/graph/IdIndex" "ids" "[J" .null) (Fx_first : Fld Z h0 ix "kombos/graph/IdIndex" "first" "J" (.long 0)) (Fx_direct : Fld Z h0 ix "kombos/graph/IdIndex" "direct" "[I" .null) (Fx_slots : Fld Z h0 ix "kombos/graph/IdIndex" "slots" "[I" .null) (Fx_size : Fld Z h0 ix "kombos/graph/IdIndex" "size" "I" (.int 3)) (nsr : sa ≠ r0) (ntr : ta ≠ r0) (nir : ix ≠ r0) (nsi : sa ≠ ix) (nti : ta ≠ ix) (g : n0 ≤ r0) (p0 : 0 ≤ x1.toInt) (p1 : x1.toInt < 3) (q0 : 0 ≤ x2.toInt) (q1 : x2.toInt < 3) (hy1 : x1.toInt32 = y1) (hy2 : x2.toInt32 = y2) (As : own_A Z h0 sa (.array .int) ((List.replicate 16 .null).set 0 (.ref bs))) (At_ : own_A Z h0 ta (.array .int) ((List.replicate 16 .null).set 0 (.ref bt))) (Ab : own_A Z h0 bs .int (S.map Value.int)) (Ac : own_A Z h0 bt .int (T.map Value.int)) (lS : S.length = 8192) (lT : T.length = 8192) (gb : n0 ≤ bs) (gc : n0 ≤ bt) (nbc : bs ≠ bt) (nbsr0 : bs ≠ r0) (nbssa : bs ≠ sa) (nbsta : bs ≠ ta) (nbsix : bs ≠ ix) (nbtr0 : bt ≠ r0) (nbtsa : bt ≠ sa) (nbtta : bt ≠ ta) (nbtix : bt ≠ ix) (nst : sa ≠ ta) :
    own_Con l Z (⟨"kombos/graph/Graph$Builder", "add", "(JJ)I"⟩ : MethodName) prog_45_method_16_code 8 (some .int) ws ({ frames := 3, cells := 0, slots := 0, locals := 45 } : Room) #[(.ref r0), (.long x1), (.long x2)] h0 n0 (own_Q_own_rm30_1 Z r0 sa ta ix el y1 y2 bs bt S T h0 n0) := by
  refine own_body (plainFor_of_name own_pn1) ?_
  intro p e s m below meth c T0 hx hZ hby hml hown hnm hret hlk Y0
  replace hown : s.vm.findClass "kombos/graph/Graph$Builder" = some m.cls := hown
  replace hnm : meth.name = "add" := hnm
  rw [own_ef_own_rm30_1 m r0 x1 x2]
  show own_Ends _ _ _ _ (T0.setTop (mkF m 0 #[rv r0, .val (.long x1), .second, .val (.long x2), .second, .unset, .unset, .unset] []))
  refine o_aloadN Y0 hx hby d30_0 rfl rfl ?_
  refine p_getF Y0 hx hZ hown (host := "") (Or.inl (own_w hw 97 rfl)) Via.refl Fb_edgeCount hby rfl d30_1 (fun T893 Y894 => ?_)
  refine o_istore Y894 hx hby d30_4 rfl (l' := #[rv r0, .val (.long x1), .second, .val (.long x2), .second, iv 1, .unset, .unset]) rfl ?_
  refine o_iload Y894 hx hby d30_6 rfl ?_
  refine o_aloadN Y894 hx hby d30_8 rfl rfl ?_
  refine p_getF Y894 hx hZ hown (host := "") (Or.inl (own_w hw 45 rfl)) Via.refl Fb_maxEdges hby rfl d30_9 (fun T895 Y896 => ?_)
  refine o_icmpYes Y896 hx hby (pc' := 46) d30_12 rfl (XT.ii_ne_t (by decide)) (by decide) (by decide) ?_
  refine o_iload Y896 hx hby d30_46 rfl ?_
  refine o_sipush Y896 hx hby d30_48 (x := 8191) rfl ?_
  refine o_iand Y896 hx hby d30_51 rfl (z := 1) rfl ?_
  refine o_ifYes Y896 hx hby (pc' := 64) d30_52 rfl (XT.i0_ne_t (by decide)) (by decide) (by decide) ?_
  refine o_aloadN Y896 hx hby d30_64 rfl rfl ?_
  refine o_lloadN Y896 hx hby d30_65 rfl ?_
  refine own_callP Y896 hx hZ (y := (⟨"kombos/graph/Graph$Builder", "vertexOf", "(J)I"⟩ : MethodName)) hown (own_w hw 52 rfl) (own_w hw 53 rfl) (own_w hw 1 rfl) (own_w hw 54 rfl) (own_w hw 2 rfl) (own_w hw 55 rfl) (by decide) (a := r0) Eb (argsL := [(.long x1)]) (rest := []) (own_rm7_f l Z a0 hw [] r0 x1 ix h0 n0  Eb Fb_index Fb_keys Ex Fx_maxSize Fx_ids Fx_first Fx_direct Fx_slots Fx_size p0 p1) (W := 0) (by decide) (by decide) (by decide) (by decide) rfl (by rw [hml]; rfl) (lenOf own_pd0 rfl) rfl (by show 2 * 0 + _ ≤ _; exact Nat.le_of_eq rfl) (hb hby d30_66) (fun T897 h899 v900 Y898 q901 => ?_)
  obtain ⟨rfl, rfl⟩ := q901
  show own_Ends _ _ _ _ (T897.setTop (mkF m 69 #[rv r0, .val (.long x1), .second, .val (.long x2), .second, iv 1, .unset, .unset] [(.int (x1.toInt32))]))
  refine o_istore Y898 hx hby d30_69 rfl (l' := #[rv r0, .val (.long x1), .second, .val (.long x2), .second, iv 1, iv (x1.toInt32), .unset]) rfl ?_
  refine o_aloadN Y898 hx hby d30_71 rfl rfl ?_
  refine o_lloadN Y898 hx hby d30_72 rfl ?_
  refine own_callP Y898 hx hZ (y := (⟨"kombos/graph/Graph$Builder", "vertexOf", "(J)I"⟩ : MethodName)) hown (own_w hw 52 rfl) (own_w hw 53 rfl) (own_w hw 1 rfl) (own_w hw 54 rfl) (own_w hw 2 rfl) (own_w hw 55 rfl) (by decide) (a := r0) Eb (argsL := [(.long x2)]) (rest := []) (own_rm7_f l Z a0 hw [] r0 x2 ix h0 n0  Eb Fb_index Fb_keys Ex Fx_maxSize Fx_ids Fx_first Fx_direct Fx_slots Fx_size q0 q1) (W := 0) (by decide) (by decide) (by decide) (by decide) rfl (by rw [hml]; rfl) (lenOf own_pd0 rfl) rfl (by show 2 * 0 + _ ≤ _; exact Nat.le_of_eq rfl) (hb hby d30_73) (fun T902 h904 v905 Y903 q906 => ?_)
  obtain ⟨rfl, rfl⟩ := q906
  show own_Ends _ _ _ _ (T902.setTop (mkF m 76 #[rv r0, .val (.long x1), .second, .val (.long x2), .second, iv 1, iv (x1.toInt32), .unset] [(.int (x2.toInt32))]))
  refine o_istore Y903 hx hby d30_76 rfl (l' := #[rv r0, .val (.long x1), .second, .val (.long x2), .second, iv 1, iv (x1.toInt32), iv (x2.toInt32)]) rfl ?_
  refine o_aloadN Y903 hx hby d30_78 rfl rfl ?_
  refine p_getF Y903 hx hZ hown (host := "") (Or.inl (own_w hw 16 rfl)) Via.refl Fb_sources hby rfl d30_79 (fun T907 Y908 => ?_)
  refine o_iload Y908 hx hby d30_82 rfl ?_
  refine o_bipush Y908 hx hby d30_84 (x := 13) rfl ?_
  refine own_st (fun t_ => XS.iushr (own_here Y908) hx rfl (hb hby d30_86) rfl) ?_
  show own_Ends _ _ _ _ (T907.setTop (mkF m 87 #[rv r0, .val (.long x1), .second, .val (.long x2), .second, iv 1, iv (x1.toInt32), iv (x2.toInt32)] [(.int 0), (.ref sa)]))
  refine p_ldR Y908 hx hZ As rfl (i := 0) (by decide) (by decide) (by simp) (v := (.ref bs)) rfl hby rfl d30_87 ?_
  refine o_iload Y908 hx hby d30_88 rfl ?_
  refine o_sipush Y908 hx hby d30_90 (x := 8191) rfl ?_
  refine o_iand Y908 hx hby d30_93 rfl (z := 1) rfl ?_
  refine o_iload Y908 hx hby d30_94 rfl ?_
  refine p_stI Y908 hx hZ Ab gb (i := 1) (by decide) (by decide) (by simp [lS]) hby rfl d30_96 (fun T909 h911 Y910 W912 A913 => ?_)
  refine o_aloadN Y910 hx hby d30_97 rfl rfl ?_
  have f914 := Fb_targets.other W912 (Or.inl (Ne.symm nbsr0))
  refine p_getF Y910 hx hZ hown (host := "") (Or.inl (own_w hw 18 rfl)) Via.refl f914 hby rfl d30_98 (fun T915 Y916 => ?_)
  refine o_iload Y916 hx hby d30_101 rfl ?_
  refine o_bipush Y916 hx hby d30_103 (x := 13) rfl ?_
  refine own_st (fun t_ => XS.iushr (own_here Y916) hx rfl (hb hby d30_105) rfl) ?_
  show own_Ends _ _ _ _ (T915.setTop (mkF m 106 #[rv r0, .val (.long x1), .second, .val (.long x2), .second, iv 1, iv (x1.toInt32), iv (x2.toInt32)] [(.int 0), (.ref ta)]))
  have f917 := At_.other W912 (Ne.symm nbsta)
  refine p_ldR Y916 hx hZ f917 rfl (i := 0) (by decide) (by decide) (by simp) (v := (.ref bt)) rfl hby rfl d30_106 ?_
  refine o_iload Y916 hx hby d30_107 rfl ?_
  refine o_sipush Y916 hx hby d30_109 (x := 8191) rfl ?_
  refine o_iand Y916 hx hby d30_112 rfl (z := 1) rfl ?_
  refine o_iload Y916 hx hby d30_113 rfl ?_
  have f918 := Ac.other W912 (Ne.symm nbc)
  refine p_stI Y916 hx hZ f918 gc (i := 1) (by decide) (by decide) (by simp [lT]) hby rfl d30_115 (fun T919 h921 Y920 W922 A923 => ?_)
  refine o_aloadN Y920 hx hby d30_116 rfl rfl ?_
  refine o_dup Y920 hx hby d30_117 rfl rfl ?_
  have f924 := Fb_edgeCount.other W912 (Or.inl (Ne.symm nbsr0))
  have f925 := f924.other W922 (Or.inl (Ne.symm nbtr0))
  refine p_getF Y920 hx hZ hown (host := "") (Or.inl (own_w hw 97 rfl)) Via.refl f925 hby rfl d30_118 (fun T926 Y927 => ?_)
  refine o_iconst Y927 hx hby d30_121 (x := 1) rfl ?_
  refine o_iadd Y927 hx hby d30_122 rfl (z := 2) rfl ?_
  have f928 := Eb.wr W912
  have f929 := f928.wr W922
  refine p_putF Y927 hx hZ hown (host := "") (Or.inl (own_w hw 97 rfl)) Via.refl f925 f929 (Or.inl (own_w hw 98 rfl)) (own_w hw 1 rfl) g (ty := .int) (by decide) rfl rfl hby rfl d30_123 (fun T930 h932 Y931 W933 F934 => ?_)
  refine o_iload Y931 hx hby d30_126 rfl ?_
  have K935 : Keep h0 h911 [r0, bs, bt] := (Keep.refl h0 [r0, bs, bt]).wr W912 (Or.inl (List.mem_of_getElem? (i := 1) rfl))
  have K936 : Keep h0 h921 [r0, bs, bt] := K935.wr W922 (Or.inl (List.mem_of_getElem? (i := 2) rfl))
  have K937 : Keep h0 h932 [r0, bs, bt] := K936.wr W933 (Or.inl (List.mem_of_getElem? (i := 0) rfl))
  have f938 := f929.wr W933
  have f939 := Fb_sources.other W912 (Or.inl (Ne.symm nbsr0))
  have f940 := f939.other W922 (Or.inl (Ne.symm nbtr0))
  have f941 := own_sn f940 W933 (own_wl hw 17 rfl) (own_wl hw 98 rfl) (by decide) own_f4 own_f1
  have f942 := f914.other W922 (Or.inl (Ne.symm nbtr0))
  have f943 := own_sn f942 W933 (own_wl hw 19 rfl) (own_wl hw 98 rfl) (by decide) own_f4 own_f1
  have f944 := Fb_vertexColumns.other W912 (Or.inl (Ne.symm nbsr0))
  have f945 := f944.other W922 (Or.inl (Ne.symm nbtr0))
  have f946 := own_sn f945 W933 (own_wl hw 27 rfl) (own_wl hw 98 rfl) (by decide) own_f5 own_f1
  have f947 := Fb_edgeColumns.other W912 (Or.inl (Ne.symm nbsr0))
  have f948 := f947.other W922 (Or.inl (Ne.symm nbtr0))
  have f949 := own_sn f948 W933 (own_wl hw 29 rfl) (own_wl hw 98 rfl) (by decide) own_f5 own_f1
  have f950 := Fb_directed.other W912 (Or.inl (Ne.symm nbsr0))
  have f951 := f950.other W922 (Or.inl (Ne.symm nbtr0))
  have f952 := own_sn f951 W933 (own_wf hw 31 rfl) (own_wl hw 98 rfl) (by decide) own_f6 own_f1
  have f953 := Fb_maxVertices.other W912 (Or.inl (Ne.symm nbsr0))
  have f954 := f953.other W922 (Or.inl (Ne.symm nbtr0))
  have f955 := own_sn f954 W933 (own_wf hw 33 rfl) (own_wl hw 98 rfl) (by decide) own_f1 own_f1
  have f956 := Fb_index.other W912 (Or.inl (Ne.symm nbsr0))
  have f957 := f956.other W922 (Or.inl (Ne.symm nbtr0))
  have f958 := own_sn f957 W933 (own_wf hw 44 rfl) (own_wl hw 98 rfl) (by decide) own_f7 own_f1
  have f959 := Fb_maxEdges.other W912 (Or.inl (Ne.symm nbsr0))
  have f960 := f959.other W922 (Or.inl (Ne.symm nbtr0))
  have f961 := own_sn f960 W933 (own_wf hw 46 rfl) (own_wl hw 98 rfl) (by decide) own_f1 own_f1
  have f962 := Fb_keys.other W912 (Or.inl (Ne.symm nbsr0))
  have f963 := f962.other W922 (Or.inl (Ne.symm nbtr0))
  have f964 := own_sn f963 W933 (own_wl hw 57 rfl) (own_wl hw 98 rfl) (by decide) own_f8 own_f1
  have f965 := Fb_weights.other W912 (Or.inl (Ne.symm nbsr0))
  have f966 := f965.other W922 (Or.inl (Ne.symm nbtr0))
  have f967 := own_sn f966 W933 (own_wl hw 101 rfl) (own_wl hw 98 rfl) (by decide) own_f9 own_f1
  have f968 := Fb_decimal.other W912 (Or.inl (Ne.symm nbsr0))
  have f969 := f968.other W922 (Or.inl (Ne.symm nbtr0))
  have f970 := own_sn f969 W933 (own_wl hw 137 rfl) (own_wl hw 98 rfl) (by decide) own_f6 own_f1
  have f973 := A913.other W922 nbc
  have f974 := f973.other W933 nbsr0
  have f975 := A923.other W933 nbtr0
  refine own_retI Y931 hx hlk hret (hb hby d30_128) (by decide) (by decide) ?_
  subst hy1 hy2
  have q971 : own_A Z h932 bs .int ((S.set 1 x1.toInt32).map Value.int) := by have q := f974; simpa only [List.map_set] using q
  have q972 : own_A Z h932 bt .int ((T.set 1 x2.toInt32).map Value.int) := by have q := f975; simpa only [List.map_set] using q
  exact ⟨rfl, K937, f938, f941, f943, f946, f949, f952, f955, f958, f961, f964, F934, f967, f970, q971, q972⟩
theorem own_ef_own_rm30_2 (m : MethodId) (r0 : Addr) (x1 : Int64) (x2 : Int64) : entryFrame m #[(.ref r0), (.long x1), (.long x2)] 8 = mkF m 0 #[rv r0, .val (.long x1), .second, .val (.long x2), .second, .unset, .unset, .unset] [] := by first | (simp [entryFrame, mkF, argsToLocals, Value.category]; done) | rfl
def own_Q_own_rm30_2 (Z : State) (r0 sa ta ix el : Addr) (y1 y2 : Int32) (bs bt : Addr) (S T : List Int32) (h0 : Heap) (n0 : Nat) (v : Option Value) (h : Heap) : Prop := v = some (.int 2) ∧ Keep h0 h [r0, bs, bt] ∧ Exa Z h r0 "kombos/graph/Graph$Builder" ∧ Fld Z h r0 "kombos/graph/Graph$Builder" "sources" "[[I" (.ref sa) ∧ Fld Z h r0 "kombos/graph/Graph$Builder" "targets" "[[I" (.ref ta) ∧ Fld Z h r0 "kombos/graph/Graph$Builder" "vertexColumns" "Ljava/util/List;" (.ref el) ∧ Fld Z h r0 "kombos/graph/Graph$Builder" "edgeColumns" "Ljava/util/List;" (.ref el) ∧ Fld Z h r0 "kombos/graph/Graph$Builder" "directed" "Z" (.int 0) ∧ Fld Z h r0 "kombos/graph/Graph$Builder" "maxVertices" "I" (.int 536870912) ∧ Fld Z h r0 "kombos/graph/Graph$Builder" "index" "Lkombos/graph/IdIndex;" (.ref ix) ∧ Fld Z h r0 "kombos/graph/Graph$Builder" "maxEdges" "I" (.int 1073741819) ∧ Fld Z h r0 "kombos/graph/Graph$Builder" "keys" "Lkombos/graph/KeyIndex;" .null ∧ Fld Z h r0 "kombos/graph/Graph$Builder" "edgeCount" "I" (.int 3) ∧ Fld Z h r0 "kombos/graph/Graph$Builder" "weights" "[[J" .null ∧ Fld Z h r0 "kombos/graph/Graph$Builder" "decimal" "Z" (.int 0) ∧ own_A Z h bs .int ((S.set 2 y1).map Value.int) ∧ own_A Z h bt .int ((T.set 2 y2).map Value.int)
set_option maxRecDepth 65536 in
set_option maxHeartbeats 40000000 in
theorem own_rm30_2 (l : Launch) (Z : State) (a0 : Array Value) (hw : ∀ d ∈ tables_1, d.before a0 Z = true) (ws : List Jvm.Cond) (r0 : Addr) (x1 : Int64) (x2 : Int64) (sa ta ix el : Addr) (y1 y2 : Int32) (bs bt : Addr) (S T : List Int32) (h0 : Heap) (n0 : Nat)  (Eb : Exa Z h0 r0 "kombos/graph/Graph$Builder") (Fb_sources : Fld Z h0 r0 "kombos/graph/Graph$Builder" "sources" "[[I" (.ref sa)) (Fb_targets : Fld Z h0 r0 "kombos/graph/Graph$Builder" "targets" "[[I" (.ref ta)) (Fb_vertexColumns : Fld Z h0 r0 "kombos/graph/Graph$Builder" "vertexColumns" "Ljava/util/List;" (.ref el)) (Fb_edgeColumns : Fld Z h0 r0 "kombos/graph/Graph$Builder" "edgeColumns" "Ljava/util/List;" (.ref el)) (Fb_directed : Fld Z h0 r0 "kombos/graph/Graph$Builder" "directed" "Z" (.int 0)) (Fb_maxVertices : Fld Z h0 r0 "kombos/graph/Graph$Builder" "maxVertices" "I" (.int 536870912)) (Fb_index : Fld Z h0 r0 "kombos/graph/Graph$Builder" "index" "Lkombos/graph/IdIndex;" (.ref ix)) (Fb_maxEdges : Fld Z h0 r0 "kombos/graph/Graph$Builder" "maxEdges" "I" (.int 1073741819)) (Fb_keys : Fld Z h0 r0 "kombos/graph/Graph$Builder" "keys" "Lkombos/graph/KeyIndex;" .null) (Fb_edgeCount : Fld Z h0 r0 "kombos/graph/Graph$Builder" "edgeCount" "I" (.int 2)) (Fb_weights : Fld Z h0 r0 "kombos/graph/Graph$Builder" "weights" "[[J" .null) (Fb_decimal : Fld Z h0 r0 "kombos/graph/Graph$Builder" "decimal" "Z" (.int 0)) (Ex : Exa Z h0 ix "kombos/graph/IdIndex") (Fx_maxSize : Fld Z h0 ix "kombos/graph/IdIndex" "maxSize" "I" (.int 536870912)) (Fx_ids : Fld Z h0 ix "kombos/graph/IdIndex" "ids" "[J" .null) (Fx_first : Fld Z h0 ix "kombos/graph/IdIndex" "first" "J" (.long 0)) (Fx_direct : Fld Z h0 ix "kombos/graph/IdIndex" "direct" "[I" .null) (Fx_slots : Fld Z h0 ix "kombos/graph/IdIndex" "slots" "[I" .null) (Fx_size : Fld Z h0 ix "kombos/graph/IdIndex" "size" "I" (.int 3)) (nsr : sa ≠ r0) (ntr : ta ≠ r0) (nir : ix ≠ r0) (nsi : sa ≠ ix) (nti : ta ≠ ix) (g : n0 ≤ r0) (p0 : 0 ≤ x1.toInt) (p1 : x1.toInt < 3) (q0 : 0 ≤ x2.toInt) (q1 : x2.toInt < 3) (hy1 : x1.toInt32 = y1) (hy2 : x2.toInt32 = y2) (As : own_A Z h0 sa (.array .int) ((List.replicate 16 .null).set 0 (.ref bs))) (At_ : own_A Z h0 ta (.array .int) ((List.replicate 16 .null).set 0 (.ref bt))) (Ab : own_A Z h0 bs .int (S.map Value.int)) (Ac : own_A Z h0 bt .int (T.map Value.int)) (lS : S.length = 8192) (lT : T.length = 8192) (gb : n0 ≤ bs) (gc : n0 ≤ bt) (nbc : bs ≠ bt) (nbsr0 : bs ≠ r0) (nbssa : bs ≠ sa) (nbsta : bs ≠ ta) (nbsix : bs ≠ ix) (nbtr0 : bt ≠ r0) (nbtsa : bt ≠ sa) (nbtta : bt ≠ ta) (nbtix : bt ≠ ix) (nst : sa ≠ ta) :
    own_Con l Z (⟨"kombos/graph/Graph$Builder", "add", "(JJ)I"⟩ : MethodName) prog_45_method_16_code 8 (some .int) ws ({ frames := 3, cells := 0, slots := 0, locals := 45 } : Room) #[(.ref r0), (.long x1), (.long x2)] h0 n0 (own_Q_own_rm30_2 Z r0 sa ta ix el y1 y2 bs bt S T h0 n0) := by
  refine own_body (plainFor_of_name own_pn1) ?_
  intro p e s m below meth c T0 hx hZ hby hml hown hnm hret hlk Y0
  replace hown : s.vm.findClass "kombos/graph/Graph$Builder" = some m.cls := hown
  replace hnm : meth.name = "add" := hnm
  rw [own_ef_own_rm30_2 m r0 x1 x2]
  show own_Ends _ _ _ _ (T0.setTop (mkF m 0 #[rv r0, .val (.long x1), .second, .val (.long x2), .second, .unset, .unset, .unset] []))
  refine o_aloadN Y0 hx hby d30_0 rfl rfl ?_
  refine p_getF Y0 hx hZ hown (host := "") (Or.inl (own_w hw 97 rfl)) Via.refl Fb_edgeCount hby rfl d30_1 (fun T976 Y977 => ?_)
  refine o_istore Y977 hx hby d30_4 rfl (l' := #[rv r0, .val (.long x1), .second, .val (.long x2), .second, iv 2, .unset, .unset]) rfl ?_
  refine o_iload Y977 hx hby d30_6 rfl ?_
  refine o_aloadN Y977 hx hby d30_8 rfl rfl ?_
  refine p_getF Y977 hx hZ hown (host := "") (Or.inl (own_w hw 45 rfl)) Via.refl Fb_maxEdges hby rfl d30_9 (fun T978 Y979 => ?_)
  refine o_icmpYes Y979 hx hby (pc' := 46) d30_12 rfl (XT.ii_ne_t (by decide)) (by decide) (by decide) ?_
  refine o_iload Y979 hx hby d30_46 rfl ?_
  refine o_sipush Y979 hx hby d30_48 (x := 8191) rfl ?_
  refine o_iand Y979 hx hby d30_51 rfl (z := 2) rfl ?_
  refine o_ifYes Y979 hx hby (pc' := 64) d30_52 rfl (XT.i0_ne_t (by decide)) (by decide) (by decide) ?_
  refine o_aloadN Y979 hx hby d30_64 rfl rfl ?_
  refine o_lloadN Y979 hx hby d30_65 rfl ?_
  refine own_callP Y979 hx hZ (y := (⟨"kombos/graph/Graph$Builder", "vertexOf", "(J)I"⟩ : MethodName)) hown (own_w hw 52 rfl) (own_w hw 53 rfl) (own_w hw 1 rfl) (own_w hw 54 rfl) (own_w hw 2 rfl) (own_w hw 55 rfl) (by decide) (a := r0) Eb (argsL := [(.long x1)]) (rest := []) (own_rm7_f l Z a0 hw [] r0 x1 ix h0 n0  Eb Fb_index Fb_keys Ex Fx_maxSize Fx_ids Fx_first Fx_direct Fx_slots Fx_size p0 p1) (W := 0) (by decide) (by decide) (by decide) (by decide) rfl (by rw [hml]; rfl) (lenOf own_pd0 rfl) rfl (by show 2 * 0 + _ ≤ _; exact Nat.le_of_eq rfl) (hb hby d30_66) (fun T980 h982 v983 Y981 q984 => ?_)
  obtain ⟨rfl, rfl⟩ := q984
  show own_Ends _ _ _ _ (T980.setTop (mkF m 69 #[rv r0, .val (.long x1), .second, .val (.long x2), .second, iv 2, .unset, .unset] [(.int (x1.toInt32))]))
  refine o_istore Y981 hx hby d30_69 rfl (l' := #[rv r0, .val (.long x1), .second, .val (.long x2), .second, iv 2, iv (x1.toInt32), .unset]) rfl ?_
  refine o_aloadN Y981 hx hby d30_71 rfl rfl ?_
  refine o_lloadN Y981 hx hby d30_72 rfl ?_
  refine own_callP Y981 hx hZ (y := (⟨"kombos/graph/Graph$Builder", "vertexOf", "(J)I"⟩ : MethodName)) hown (own_w hw 52 rfl) (own_w hw 53 rfl) (own_w hw 1 rfl) (own_w hw 54 rfl) (own_w hw 2 rfl) (own_w hw 55 rfl) (by decide) (a := r0) Eb (argsL := [(.long x2)]) (rest := []) (own_rm7_f l Z a0 hw [] r0 x2 ix h0 n0  Eb Fb_index Fb_keys Ex Fx_maxSize Fx_ids Fx_first Fx_direct Fx_slots Fx_size q0 q1) (W := 0) (by decide) (by decide) (by decide) (by decide) rfl (by rw [hml]; rfl) (lenOf own_pd0 rfl) rfl (by show 2 * 0 + _ ≤ _; exact Nat.le_of_eq rfl) (hb hby d30_73) (fun T985 h987 v988 Y986 q989 => ?_)
  obtain ⟨rfl, rfl⟩ := q989
  show own_Ends _ _ _ _ (T985.setTop (mkF m 76 #[rv r0, .val (.long x1), .second, .val (.long x2), .second, iv 2, iv (x1.toInt32), .unset] [(.int (x2.toInt32))]))
  refine o_istore Y986 hx hby d30_76 rfl (l' := #[rv r0, .val (.long x1), .second, .val (.long x2), .second, iv 2, iv (x1.toInt32), iv (x2.toInt32)]) rfl ?_
  refine o_aloadN Y986 hx hby d30_78 rfl rfl ?_
  refine p_getF Y986 hx hZ hown (host := "") (Or.inl (own_w hw 16 rfl)) Via.refl Fb_sources hby rfl d30_79 (fun T990 Y991 => ?_)
  refine o_iload Y991 hx hby d30_82 rfl ?_
  refine o_bipush Y991 hx hby d30_84 (x := 13) rfl ?_
  refine own_st (fun t_ => XS.iushr (own_here Y991) hx rfl (hb hby d30_86) rfl) ?_
  show own_Ends _ _ _ _ (T990.setTop (mkF m 87 #[rv r0, .val (.long x1), .second, .val (.long x2), .second, iv 2, iv (x1.toInt32), iv (x2.toInt32)] [(.int 0), (.ref sa)]))
  refine p_ldR Y991 hx hZ As rfl (i := 0) (by decide) (by decide) (by simp) (v := (.ref bs)) rfl hby rfl d30_87 ?_
  refine o_iload Y991 hx hby d30_88 rfl ?_
  refine o_sipush Y991 hx hby d30_90 (x := 8191) rfl ?_
  refine o_iand Y991 hx hby d30_93 rfl (z := 2) rfl ?_
  refine o_iload Y991 hx hby d30_94 rfl ?_
  refine p_stI Y991 hx hZ Ab gb (i := 2) (by decide) (by decide) (by simp [lS]) hby rfl d30_96 (fun T992 h994 Y993 W995 A996 => ?_)
  refine o_aloadN Y993 hx hby d30_97 rfl rfl ?_
  have f997 := Fb_targets.other W995 (Or.inl (Ne.symm nbsr0))
  refine p_getF Y993 hx hZ hown (host := "") (Or.inl (own_w hw 18 rfl)) Via.refl f997 hby rfl d30_98 (fun T998 Y999 => ?_)
  refine o_iload Y999 hx hby d30_101 rfl ?_
  refine o_bipush Y999 hx hby d30_103 (x := 13) rfl ?_
  refine own_st (fun t_ => XS.iushr (own_here Y999) hx rfl (hb hby d30_105) rfl) ?_
  show own_Ends _ _ _ _ (T998.setTop (mkF m 106 #[rv r0, .val (.long x1), .second, .val (.long x2), .second, iv 2, iv (x1.toInt32), iv (x2.toInt32)] [(.int 0), (.ref ta)]))
  have f1000 := At_.other W995 (Ne.symm nbsta)
  refine p_ldR Y999 hx hZ f1000 rfl (i := 0) (by decide) (by decide) (by simp) (v := (.ref bt)) rfl hby rfl d30_106 ?_
  refine o_iload Y999 hx hby d30_107 rfl ?_
  refine o_sipush Y999 hx hby d30_109 (x := 8191) rfl ?_
  refine o_iand Y999 hx hby d30_112 rfl (z := 2) rfl ?_
  refine o_iload Y999 hx hby d30_113 rfl ?_
  have f1001 := Ac.other W995 (Ne.symm nbc)
  refine p_stI Y999 hx hZ f1001 gc (i := 2) (by decide) (by decide) (by simp [lT]) hby rfl d30_115 (fun T1002 h1004 Y1003 W1005 A1006 => ?_)
  refine o_aloadN Y1003 hx hby d30_116 rfl rfl ?_
  refine o_dup Y1003 hx hby d30_117 rfl rfl ?_
  have f1007 := Fb_edgeCount.other W995 (Or.inl (Ne.symm nbsr0))
  have f1008 := f1007.other W1005 (Or.inl (Ne.symm nbtr0))
  refine p_getF Y1003 hx hZ hown (host := "") (Or.inl (own_w hw 97 rfl)) Via.refl f1008 hby rfl d30_118 (fun T1009 Y1010 => ?_)
  refine o_iconst Y1010 hx hby d30_121 (x := 1) rfl ?_
  refine o_iadd Y1010 hx hby d30_122 rfl (z := 3) rfl ?_
  have f1011 := Eb.wr W995
  have f1012 := f1011.wr W1005
  refine p_putF Y1010 hx hZ hown (host := "") (Or.inl (own_w hw 97 rfl)) Via.refl f1008 f1012 (Or.inl (own_w hw 98 rfl)) (own_w hw 1 rfl) g (ty := .int) (by decide) rfl rfl hby rfl d30_123 (fun T1013 h1015 Y1014 W1016 F1017 => ?_)
  refine o_iload Y1014 hx hby d30_126 rfl ?_
  have K1018 : Keep h0 h994 [r0, bs, bt] := (Keep.refl h0 [r0, bs, bt]).wr W995 (Or.inl (List.mem_of_getElem? (i := 1) rfl))
  have K1019 : Keep h0 h1004 [r0, bs, bt] := K1018.wr W1005 (Or.inl (List.mem_of_getElem? (i := 2) rfl))
  have K1020 : Keep h0 h1015 [r0, bs, bt] := K1019.wr W1016 (Or.inl (List.mem_of_getElem? (i := 0) rfl))
  have f1021 := f1012.wr W1016
  have f1022 := Fb_sources.other W995 (Or.inl (Ne.symm nbsr0))
  have f1023 := f1022.other W1005 (Or.inl (Ne.symm nbtr0))
  have f1024 := own_sn f1023 W1016 (own_wl hw 17 rfl) (own_wl hw 98 rfl) (by decide) own_f4 own_f1
  have f1025 := f997.other W1005 (Or.inl (Ne.symm nbtr0))
  have f1026 := own_sn f1025 W1016 (own_wl hw 19 rfl) (own_wl hw 98 rfl) (by decide) own_f4 own_f1
  have f1027 := Fb_vertexColumns.other W995 (Or.inl (Ne.symm nbsr0))
  have f1028 := f1027.other W1005 (Or.inl (Ne.symm nbtr0))
  have f1029 := own_sn f1028 W1016 (own_wl hw 27 rfl) (own_wl hw 98 rfl) (by decide) own_f5 own_f1
  have f1030 := Fb_edgeColumns.other W995 (Or.inl (Ne.symm nbsr0))
  have f1031 := f1030.other W1005 (Or.inl (Ne.symm nbtr0))
  have f1032 := own_sn f1031 W1016 (own_wl hw 29 rfl) (own_wl hw 98 rfl) (by decide) own_f5 own_f1
  have f1033 := Fb_directed.other W995 (Or.inl (Ne.symm nbsr0))
  have f1034 := f1033.other W1005 (Or.inl (Ne.symm nbtr0))
  have f1035 := own_sn f1034 W1016 (own_wf hw 31 rfl) (own_wl hw 98 rfl) (by decide) own_f6 own_f1
  have f1036 := Fb_maxVertices.other W995 (Or.inl (Ne.symm nbsr0))
  have f1037 := f1036.other W1005 (Or.inl (Ne.symm nbtr0))
  have f1038 := own_sn f1037 W1016 (own_wf hw 33 rfl) (own_wl hw 98 rfl) (by decide) own_f1 own_f1
  have f1039 := Fb_index.other W995 (Or.inl (Ne.symm nbsr0))
  have f1040 := f1039.other W1005 (Or.inl (Ne.symm nbtr0))
  have f1041 := own_sn f1040 W1016 (own_wf hw 44 rfl) (own_wl hw 98 rfl) (by decide) own_f7 own_f1
  have f1042 := Fb_maxEdges.other W995 (Or.inl (Ne.symm nbsr0))
  have f1043 := f1042.other W1005 (Or.inl (Ne.symm nbtr0))
  have f1044 := own_sn f1043 W1016 (own_wf hw 46 rfl) (own_wl hw 98 rfl) (by decide) own_f1 own_f1
  have f1045 := Fb_keys.other W995 (Or.inl (Ne.symm nbsr0))
  have f1046 := f1045.other W1005 (Or.inl (Ne.symm nbtr0))
  have f1047 := own_sn f1046 W1016 (own_wl hw 57 rfl) (own_wl hw 98 rfl) (by decide) own_f8 own_f1
  have f1048 := Fb_weights.other W995 (Or.inl (Ne.symm nbsr0))
  have f1049 := f1048.other W1005 (Or.inl (Ne.symm nbtr0))
  have f1050 := own_sn f1049 W1016 (own_wl hw 101 rfl) (own_wl hw 98 rfl) (by decide) own_f9 own_f1
  have f1051 := Fb_decimal.other W995 (Or.inl (Ne.symm nbsr0))
  have f1052 := f1051.other W1005 (Or.inl (Ne.symm nbtr0))
  have f1053 := own_sn f1052 W1016 (own_wl hw 137 rfl) (own_wl hw 98 rfl) (by decide) own_f6 own_f1
  have f1056 := A996.other W1005 nbc
  have f1057 := f1056.other W1016 nbsr0
  have f1058 := A1006.other W1016 nbtr0
  refine own_retI Y1014 hx hlk hret (hb hby d30_128) (by decide) (by decide) ?_
  subst hy1 hy2
  have q1054 : own_A Z h1015 bs .int ((S.set 2 x1.toInt32).map Value.int) := by have q := f1057; simpa only [List.map_set] using q
  have q1055 : own_A Z h1015 bt .int ((T.set 2 x2.toInt32).map Value.int) := by have q := f1058; simpa only [List.map_set] using q
  exact ⟨rfl, K1020, f1021, f1024, f1026, f1029, f1032, f1035, f1038, f1041, f1044, f1047, F1017, f1050, f1053, q1054, q1055⟩
theorem own_pd4 : parseMethodDescriptor "(JJ)I" = some ⟨[.long, .long], some .int⟩ := by decide +kernel
def bc29 : ByteArray := prog_45_method_8_code
theorem d29_0 : decode bc29 0 = .ok (.aload_n 0, 1) := by decide +kernel
theorem d29_1 : decode bc29 1 = .ok (.lload_n 1, 1) := by decide +kernel
theorem d29_2 : decode bc29 2 = .ok (.lload_n 3, 1) := by decide +kernel
theorem d29_3 : decode bc29 3 = .ok (.invokevirtual 131, 3) := by decide +kernel
theorem d29_6 : decode bc29 6 = .ok (.istore 5, 2) := by decide +kernel
theorem d29_8 : decode bc29 8 = .ok (.aload_n 0, 1) := by decide +kernel
theorem d29_9 : decode bc29 9 = .ok (.getfield 134, 3) := by decide +kernel
theorem d29_12 : decode bc29 12 = .ok (.ifnull 24, 3) := by decide +kernel
theorem d29_36 : decode bc29 36 = .ok (.return_, 1) := by decide +kernel
theorem own_ef_own_rm29_0 (m : MethodId) (r0 : Addr) (x1 : Int64) (x2 : Int64) : entryFrame m #[(.ref r0), (.long x1), (.long x2)] 6 = mkF m 0 #[rv r0, .val (.long x1), .second, .val (.long x2), .second, .unset] [] := by first | (simp [entryFrame, mkF, argsToLocals, Value.category]; done) | rfl
def own_Q_own_rm29_0 (Z : State) (r0 sa ta ix el : Addr) (y1 y2 : Int32) (h0 : Heap) (n0 : Nat) (v : Option Value) (h : Heap) : Prop := ∃ (bs bt : Addr) (S T : List Int32), S.length = 8192 ∧ T.length = 8192 ∧ v = none ∧ Keep h0 h [r0, sa, ta] ∧ Exa Z h r0 "kombos/graph/Graph$Builder" ∧ Fld Z h r0 "kombos/graph/Graph$Builder" "sources" "[[I" (.ref sa) ∧ Fld Z h r0 "kombos/graph/Graph$Builder" "targets" "[[I" (.ref ta) ∧ Fld Z h r0 "kombos/graph/Graph$Builder" "vertexColumns" "Ljava/util/List;" (.ref el) ∧ Fld Z h r0 "kombos/graph/Graph$Builder" "edgeColumns" "Ljava/util/List;" (.ref el) ∧ Fld Z h r0 "kombos/graph/Graph$Builder" "directed" "Z" (.int 0) ∧ Fld Z h r0 "kombos/graph/Graph$Builder" "maxVertices" "I" (.int 536870912) ∧ Fld Z h r0 "kombos/graph/Graph$Builder" "index" "Lkombos/graph/IdIndex;" (.ref ix) ∧ Fld Z h r0 "kombos/graph/Graph$Builder" "maxEdges" "I" (.int 1073741819) ∧ Fld Z h r0 "kombos/graph/Graph$Builder" "keys" "Lkombos/graph/KeyIndex;" .null ∧ Fld Z h r0 "kombos/graph/Graph$Builder" "edgeCount" "I" (.int 1) ∧ Fld Z h r0 "kombos/graph/Graph$Builder" "weights" "[[J" .null ∧ Fld Z h r0 "kombos/graph/Graph$Builder" "decimal" "Z" (.int 0) ∧ own_A Z h sa (.array .int) ((List.replicate 16 .null).set 0 (.ref bs)) ∧ own_A Z h ta (.array .int) ((List.replicate 16 .null).set 0 (.ref bt)) ∧ own_A Z h bs .int ((S.set 0 y1).map Value.int) ∧ own_A Z h bt .int ((T.set 0 y2).map Value.int) ∧ h0.size ≤ bs ∧ h0.size ≤ bt ∧ bs ≠ bt
set_option maxRecDepth 65536 in
set_option maxHeartbeats 40000000 in
theorem own_rm29_0 (l : Launch) (Z : State) (a0 : Array Value) (hw : ∀ d ∈ tables_1, d.before a0 Z = true) (ws : List Jvm.Cond) (r0 : Addr) (x1 : Int64) (x2 : Int64) (sa ta ix el : Addr) (y1 y2 : Int32) (h0 : Heap) (n0 : Nat) (Z0 : n0 ≤ h0.size) (Eb : Exa Z h0 r0 "kombos/graph/Graph$Builder") (Fb_sources : Fld Z h0 r0 "kombos/graph/Graph$Builder" "sources" "[[I" (.ref sa)) (Fb_targets : Fld Z h0 r0 "kombos/graph/Graph$Builder" "targets" "[[I" (.ref ta)) (Fb_vertexColumns : Fld Z h0 r0 "kombos/graph/Graph$Builder" "vertexColumns" "Ljava/util/List;" (.ref el)) (Fb_edgeColumns : Fld Z h0 r0 "kombos/graph/Graph$Builder" "edgeColumns" "Ljava/util/List;" (.ref el)) (Fb_directed : Fld Z h0 r0 "kombos/graph/Graph$Builder" "directed" "Z" (.int 0)) (Fb_maxVertices : Fld Z h0 r0 "kombos/graph/Graph$Builder" "maxVertices" "I" (.int 536870912)) (Fb_index : Fld Z h0 r0 "kombos/graph/Graph$Builder" "index" "Lkombos/graph/IdIndex;" (.ref ix)) (Fb_maxEdges : Fld Z h0 r0 "kombos/graph/Graph$Builder" "maxEdges" "I" (.int 1073741819)) (Fb_keys : Fld Z h0 r0 "kombos/graph/Graph$Builder" "keys" "Lkombos/graph/KeyIndex;" .null) (Fb_edgeCount : Fld Z h0 r0 "kombos/graph/Graph$Builder" "edgeCount" "I" (.int 0)) (Fb_weights : Fld Z h0 r0 "kombos/graph/Graph$Builder" "weights" "[[J" .null) (Fb_decimal : Fld Z h0 r0 "kombos/graph/Graph$Builder" "decimal" "Z" (.int 0)) (Ex : Exa Z h0 ix "kombos/graph/IdIndex") (Fx_maxSize : Fld Z h0 ix "kombos/graph/IdIndex" "maxSize" "I" (.int 536870912)) (Fx_ids : Fld Z h0 ix "kombos/graph/IdIndex" "ids" "[J" .null) (Fx_first : Fld Z h0 ix "kombos/graph/IdIndex" "first" "J" (.long 0)) (Fx_direct : Fld Z h0 ix "kombos/graph/IdIndex" "direct" "[I" .null) (Fx_slots : Fld Z h0 ix "kombos/graph/IdIndex" "slots" "[I" .null) (Fx_size : Fld Z h0 ix "kombos/graph/IdIndex" "size" "I" (.int 3)) (nsr : sa ≠ r0) (ntr : ta ≠ r0) (nir : ix ≠ r0) (nsi : sa ≠ ix) (nti : ta ≠ ix) (g : n0 ≤ r0) (p0 : 0 ≤ x1.toInt) (p1 : x1.toInt < 3) (q0 : 0 ≤ x2.toInt) (q1 : x2.toInt < 3) (hy1 : x1.toInt32 = y1) (hy2 : x2.toInt32 = y2) (Es : Exa Z h0 sa "[[I") (As : own_A Z h0 sa (.array .int) (List.replicate 16 .null)) (Et : Exa Z h0 ta "[[I") (At_ : own_A Z h0 ta (.array .int) (List.replicate 16 .null)) (gs : n0 ≤ sa) (gt : n0 ≤ ta) (nst : sa ≠ ta) :
    own_Con l Z (⟨"kombos/graph/Graph$Builder", "addEdge", "(JJ)V"⟩ : MethodName) prog_45_method_8_code 6 none ws ({ frames := 4, cells := 2, slots := 16384, locals := 64 } : Room) #[(.ref r0), (.long x1), (.long x2)] h0 n0 (own_Q_own_rm29_0 Z r0 sa ta ix el y1 y2 h0 n0) := by
  refine own_body (plainFor_of_name own_pn1) ?_
  intro p e s m below meth c T0 hx hZ hby hml hown hnm hret hlk Y0
  replace hown : s.vm.findClass "kombos/graph/Graph$Builder" = some m.cls := hown
  replace hnm : meth.name = "addEdge" := hnm
  rw [own_ef_own_rm29_0 m r0 x1 x2]
  show own_Ends _ _ _ _ (T0.setTop (mkF m 0 #[rv r0, .val (.long x1), .second, .val (.long x2), .second, .unset] []))
  refine o_aloadN Y0 hx hby d29_0 rfl rfl ?_
  refine o_lloadN Y0 hx hby d29_1 rfl ?_
  refine o_lloadN Y0 hx hby d29_2 rfl ?_
  refine own_callP Y0 hx hZ (y := (⟨"kombos/graph/Graph$Builder", "add", "(JJ)I"⟩ : MethodName)) hown (own_w hw 256 rfl) (own_w hw 257 rfl) (own_w hw 1 rfl) (own_w hw 258 rfl) (own_w hw 2 rfl) (own_w hw 259 rfl) (by decide) (a := r0) Eb (argsL := [(.long x1), (.long x2)]) (rest := []) (own_rm30_0 l Z a0 hw [] r0 x1 x2 sa ta ix el y1 y2 h0 n0 Z0 Eb Fb_sources Fb_targets Fb_vertexColumns Fb_edgeColumns Fb_directed Fb_maxVertices Fb_index Fb_maxEdges Fb_keys Fb_edgeCount Fb_weights Fb_decimal Ex Fx_maxSize Fx_ids Fx_first Fx_direct Fx_slots Fx_size nsr ntr nir nsi nti g p0 p1 q0 q1 hy1 hy2 Es As Et At_ gs gt nst) (W := 0) (by decide) (by decide) (by decide) (by decide) rfl (by rw [hml]; rfl) (lenOf own_pd4 rfl) rfl (by show 2 * 0 + _ ≤ _; exact Nat.le_of_eq rfl) (hb hby d29_3) (fun T1059 h1061 v1062 Y1060 q1063 => ?_)
  obtain ⟨bs, bt, S, T, lS, lT, rfl, K1064, F1065, F1066, F1067, F1068, F1069, F1070, F1071, F1072, F1073, F1074, F1075, F1076, F1077, F1078, F1079, F1080, F1081, hz1082, hz1083, ne1084⟩ := q1063
  have ne1085 : r0 ≠ bs := Nat.ne_of_lt (Nat.lt_of_lt_of_le Eb.lt hz1082)
  have ne1086 : ix ≠ bs := Nat.ne_of_lt (Nat.lt_of_lt_of_le Ex.lt hz1082)
  have ne1087 : sa ≠ bs := Nat.ne_of_lt (Nat.lt_of_lt_of_le Es.lt hz1082)
  have ne1088 : ta ≠ bs := Nat.ne_of_lt (Nat.lt_of_lt_of_le Et.lt hz1082)
  have g1089 : n0 ≤ bs := Nat.le_trans Z0 hz1082
  have ne1090 : r0 ≠ bt := Nat.ne_of_lt (Nat.lt_of_lt_of_le Eb.lt hz1083)
  have ne1091 : ix ≠ bt := Nat.ne_of_lt (Nat.lt_of_lt_of_le Ex.lt hz1083)
  have ne1092 : sa ≠ bt := Nat.ne_of_lt (Nat.lt_of_lt_of_le Es.lt hz1083)
  have ne1093 : ta ≠ bt := Nat.ne_of_lt (Nat.lt_of_lt_of_le Et.lt hz1083)
  have g1094 : n0 ≤ bt := Nat.le_trans Z0 hz1083
  show own_Ends _ _ _ _ (T1059.setTop (mkF m 6 #[rv r0, .val (.long x1), .second, .val (.long x2), .second, .unset] [(.int 0)]))
  refine o_istore Y1060 hx hby d29_6 rfl (l' := #[rv r0, .val (.long x1), .second, .val (.long x2), .second, iv 0]) rfl ?_
  refine o_aloadN Y1060 hx hby d29_8 rfl rfl ?_
  refine p_getF Y1060 hx hZ hown (host := "") (Or.inl (own_w hw 100 rfl)) Via.refl F1076 hby rfl d29_9 (fun T1095 Y1096 => ?_)
  refine o_ifnullYes Y1096 hx hby (pc' := 36) d29_12 rfl (by decide) (by decide) ?_
  have K1097 : Keep h0 h1061 [r0, sa, ta] := (Keep.refl h0 [r0, sa, ta]).trans K1064 (allS (Or.inl (List.mem_of_getElem? (i := 0) rfl)) (allS (Or.inl (List.mem_of_getElem? (i := 1) rfl)) (allS (Or.inl (List.mem_of_getElem? (i := 2) rfl)) all0)))
  refine own_retV Y1096 hx hlk hret (hb hby d29_36) (by decide) (by decide) ?_
  exact ⟨_, _, S, T, lS, lT, rfl, K1097, F1065, F1066, F1067, F1068, F1069, F1070, F1071, F1072, F1073, F1074, F1075, F1076, F1077, F1078, F1079, F1080, F1081, (Nat.le_trans (Keep.refl h0 [r0, sa, ta]).1 hz1082), (Nat.le_trans (Keep.refl h0 [r0, sa, ta]).1 hz1083), ne1084⟩
theorem own_ef_own_rm29_1 (m : MethodId) (r0 : Addr) (x1 : Int64) (x2 : Int64) : entryFrame m #[(.ref r0), (.long x1), (.long x2)] 6 = mkF m 0 #[rv r0, .val (.long x1), .second, .val (.long x2), .second, .unset] [] := by first | (simp [entryFrame, mkF, argsToLocals, Value.category]; done) | rfl
def own_Q_own_rm29_1 (Z : State) (r0 sa ta ix el : Addr) (y1 y2 : Int32) (bs bt : Addr) (S T : List Int32) (h0 : Heap) (n0 : Nat) (v : Option Value) (h : Heap) : Prop := v = none ∧ Keep h0 h [r0, bs, bt] ∧ Exa Z h r0 "kombos/graph/Graph$Builder" ∧ Fld Z h r0 "kombos/graph/Graph$Builder" "sources" "[[I" (.ref sa) ∧ Fld Z h r0 "kombos/graph/Graph$Builder" "targets" "[[I" (.ref ta) ∧ Fld Z h r0 "kombos/graph/Graph$Builder" "vertexColumns" "Ljava/util/List;" (.ref el) ∧ Fld Z h r0 "kombos/graph/Graph$Builder" "edgeColumns" "Ljava/util/List;" (.ref el) ∧ Fld Z h r0 "kombos/graph/Graph$Builder" "directed" "Z" (.int 0) ∧ Fld Z h r0 "kombos/graph/Graph$Builder" "maxVertices" "I" (.int 536870912) ∧ Fld Z h r0 "kombos/graph/Graph$Builder" "index" "Lkombos/graph/IdIndex;" (.ref ix) ∧ Fld Z h r0 "kombos/graph/Graph$Builder" "maxEdges" "I" (.int 1073741819) ∧ Fld Z h r0 "kombos/graph/Graph$Builder" "keys" "Lkombos/graph/KeyIndex;" .null ∧ Fld Z h r0 "kombos/graph/Graph$Builder" "edgeCount" "I" (.int 2) ∧ Fld Z h r0 "kombos/graph/Graph$Builder" "weights" "[[J" .null ∧ Fld Z h r0 "kombos/graph/Graph$Builder" "decimal" "Z" (.int 0) ∧ own_A Z h bs .int ((S.set 1 y1).map Value.int) ∧ own_A Z h bt .int ((T.set 1 y2).map Value.int)
set_option maxRecDepth 65536 in
set_option maxHeartbeats 40000000 in
theorem own_rm29_1 (l : Launch) (Z : State) (a0 : Array Value) (hw : ∀ d ∈ tables_1, d.before a0 Z = true) (ws : List Jvm.Cond) (r0 : Addr) (x1 : Int64) (x2 : Int64) (sa ta ix el : Addr) (y1 y2 : Int32) (bs bt : Addr) (S T : List Int32) (h0 : Heap) (n0 : Nat)  (Eb : Exa Z h0 r0 "kombos/graph/Graph$Builder") (Fb_sources : Fld Z h0 r0 "kombos/graph/Graph$Builder" "sources" "[[I" (.ref sa)) (Fb_targets : Fld Z h0 r0 "kombos/graph/Graph$Builder" "targets" "[[I" (.ref ta)) (Fb_vertexColumns : Fld Z h0 r0 "kombos/graph/Graph$Builder" "vertexColumns" "Ljava/util/List;" (.ref el)) (Fb_edgeColumns : Fld Z h0 r0 "kombos/graph/Graph$Builder" "edgeColumns" "Ljava/util/List;" (.ref el)) (Fb_directed : Fld Z h0 r0 "kombos/graph/Graph$Builder" "directed" "Z" (.int 0)) (Fb_maxVertices : Fld Z h0 r0 "kombos/graph/Graph$Builder" "maxVertices" "I" (.int 536870912)) (Fb_index : Fld Z h0 r0 "kombos/graph/Graph$Builder" "index" "Lkombos/graph/IdIndex;" (.ref ix)) (Fb_maxEdges : Fld Z h0 r0 "kombos/graph/Graph$Builder" "maxEdges" "I" (.int 1073741819)) (Fb_keys : Fld Z h0 r0 "kombos/graph/Graph$Builder" "keys" "Lkombos/graph/KeyIndex;" .null) (Fb_edgeCount : Fld Z h0 r0 "kombos/graph/Graph$Builder" "edgeCount" "I" (.int 1)) (Fb_weights : Fld Z h0 r0 "kombos/graph/Graph$Builder" "weights" "[[J" .null) (Fb_decimal : Fld Z h0 r0 "kombos/graph/Graph$Builder" "decimal" "Z" (.int 0)) (Ex : Exa Z h0 ix "kombos/graph/IdIndex") (Fx_maxSize : Fld Z h0 ix "kombos/graph/IdIndex" "maxSize" "I" (.int 536870912)) (Fx_ids : Fld Z h0 ix "kombos/graph/IdIndex" "ids" "[J" .null) (Fx_first : Fld Z h0 ix "kombos/graph/IdIndex" "first" "J" (.long 0)) (Fx_direct : Fld Z h0 ix "kombos/graph/IdIndex" "direct" "[I" .null) (Fx_slots : Fld Z h0 ix "kombos/graph/IdIndex" "slots" "[I" .null) (Fx_size : Fld Z h0 ix "kombos/graph/IdIndex" "size" "I" (.int 3)) (nsr : sa ≠ r0) (ntr : ta ≠ r0) (nir : ix ≠ r0) (nsi : sa ≠ ix) (nti : ta ≠ ix) (g : n0 ≤ r0) (p0 : 0 ≤ x1.toInt) (p1 : x1.toInt < 3) (q0 : 0 ≤ x2.toInt) (q1 : x2.toInt < 3) (hy1 : x1.toInt32 = y1) (hy2 : x2.toInt32 = y2) (As : own_A Z h0 sa (.array .int) ((List.replicate 16 .null).set 0 (.ref bs))) (At_ : own_A Z h0 ta (.array .int) ((List.replicate 16 .null).set 0 (.ref bt))) (Ab : own_A Z h0 bs .int (S.map Value.int)) (Ac : own_A Z h0 bt .int (T.map Value.int)) (lS : S.length = 8192) (lT : T.length = 8192) (gb : n0 ≤ bs) (gc : n0 ≤ bt) (nbc : bs ≠ bt) (nbsr0 : bs ≠ r0) (nbssa : bs ≠ sa) (nbsta : bs ≠ ta) (nbsix : bs ≠ ix) (nbtr0 : bt ≠ r0) (nbtsa : bt ≠ sa) (nbtta : bt ≠ ta) (nbtix : bt ≠ ix) (nst : sa ≠ ta) :
    own_Con l Z (⟨"kombos/graph/Graph$Builder", "addEdge", "(JJ)V"⟩ : MethodName) prog_45_method_8_code 6 none ws ({ frames := 4, cells := 0, slots := 0, locals := 64 } : Room) #[(.ref r0), (.long x1), (.long x2)] h0 n0 (own_Q_own_rm29_1 Z r0 sa ta ix el y1 y2 bs bt S T h0 n0) := by
  refine own_body (plainFor_of_name own_pn1) ?_
  intro p e s m below meth c T0 hx hZ hby hml hown hnm hret hlk Y0
  replace hown : s.vm.findClass "kombos/graph/Graph$Builder" = some m.cls := hown
  replace hnm : meth.name = "addEdge" := hnm
  rw [own_ef_own_rm29_1 m r0 x1 x2]
  show own_Ends _ _ _ _ (T0.setTop (mkF m 0 #[rv r0, .val (.long x1), .second, .val (.long x2), .second, .unset] []))
  refine o_aloadN Y0 hx hby d29_0 rfl rfl ?_
  refine o_lloadN Y0 hx hby d29_1 rfl ?_
  refine o_lloadN Y0 hx hby d29_2 rfl ?_
  refine own_callP Y0 hx hZ (y := (⟨"kombos/graph/Graph$Builder", "add", "(JJ)I"⟩ : MethodName)) hown (own_w hw 256 rfl) (own_w hw 257 rfl) (own_w hw 1 rfl) (own_w hw 258 rfl) (own_w hw 2 rfl) (own_w hw 259 rfl) (by decide) (a := r0) Eb (argsL := [(.long x1), (.long x2)]) (rest := []) (own_rm30_1 l Z a0 hw [] r0 x1 x2 sa ta ix el y1 y2 bs bt S T h0 n0  Eb Fb_sources Fb_targets Fb_vertexColumns Fb_edgeColumns Fb_directed Fb_maxVertices Fb_index Fb_maxEdges Fb_keys Fb_edgeCount Fb_weights Fb_decimal Ex Fx_maxSize Fx_ids Fx_first Fx_direct Fx_slots Fx_size nsr ntr nir nsi nti g p0 p1 q0 q1 hy1 hy2 As At_ Ab Ac lS lT gb gc nbc nbsr0 nbssa nbsta nbsix nbtr0 nbtsa nbtta nbtix nst) (W := 0) (by decide) (by decide) (by decide) (by decide) rfl (by rw [hml]; rfl) (lenOf own_pd4 rfl) rfl (by show 2 * 0 + _ ≤ _; exact Nat.le_of_eq rfl) (hb hby d29_3) (fun T1098 h1100 v1101 Y1099 q1102 => ?_)
  obtain ⟨rfl, K1103, F1104, F1105, F1106, F1107, F1108, F1109, F1110, F1111, F1112, F1113, F1114, F1115, F1116, F1117, F1118⟩ := q1102
  show own_Ends _ _ _ _ (T1098.setTop (mkF m 6 #[rv r0, .val (.long x1), .second, .val (.long x2), .second, .unset] [(.int 1)]))
  refine o_istore Y1099 hx hby d29_6 rfl (l' := #[rv r0, .val (.long x1), .second, .val (.long x2), .second, iv 1]) rfl ?_
  refine o_aloadN Y1099 hx hby d29_8 rfl rfl ?_
  refine p_getF Y1099 hx hZ hown (host := "") (Or.inl (own_w hw 100 rfl)) Via.refl F1115 hby rfl d29_9 (fun T1119 Y1120 => ?_)
  refine o_ifnullYes Y1120 hx hby (pc' := 36) d29_12 rfl (by decide) (by decide) ?_
  have K1121 : Keep h0 h1100 [r0, bs, bt] := (Keep.refl h0 [r0, bs, bt]).trans K1103 (allS (Or.inl (List.mem_of_getElem? (i := 0) rfl)) (allS (Or.inl (List.mem_of_getElem? (i := 1) rfl)) (allS (Or.inl (List.mem_of_getElem? (i := 2) rfl)) all0)))
  refine own_retV Y1120 hx hlk hret (hb hby d29_36) (by decide) (by decide) ?_
  exact ⟨rfl, K1121, F1104, F1105, F1106, F1107, F1108, F1109, F1110, F1111, F1112, F1113, F1114, F1115, F1116, F1117, F1118⟩
theorem own_ef_own_rm29_2 (m : MethodId) (r0 : Addr) (x1 : Int64) (x2 : Int64) : entryFrame m #[(.ref r0), (.long x1), (.long x2)] 6 = mkF m 0 #[rv r0, .val (.long x1), .second, .val (.long x2), .second, .unset] [] := by first | (simp [entryFrame, mkF, argsToLocals, Value.category]; done) | rfl
def own_Q_own_rm29_2 (Z : State) (r0 sa ta ix el : Addr) (y1 y2 : Int32) (bs bt : Addr) (S T : List Int32) (h0 : Heap) (n0 : Nat) (v : Option Value) (h : Heap) : Prop := v = none ∧ Keep h0 h [r0, bs, bt] ∧ Exa Z h r0 "kombos/graph/Graph$Builder" ∧ Fld Z h r0 "kombos/graph/Graph$Builder" "sources" "[[I" (.ref sa) ∧ Fld Z h r0 "kombos/graph/Graph$Builder" "targets" "[[I" (.ref ta) ∧ Fld Z h r0 "kombos/graph/Graph$Builder" "vertexColumns" "Ljava/util/List;" (.ref el) ∧ Fld Z h r0 "kombos/graph/Graph$Builder" "edgeColumns" "Ljava/util/List;" (.ref el) ∧ Fld Z h r0 "kombos/graph/Graph$Builder" "directed" "Z" (.int 0) ∧ Fld Z h r0 "kombos/graph/Graph$Builder" "maxVertices" "I" (.int 536870912) ∧ Fld Z h r0 "kombos/graph/Graph$Builder" "index" "Lkombos/graph/IdIndex;" (.ref ix) ∧ Fld Z h r0 "kombos/graph/Graph$Builder" "maxEdges" "I" (.int 1073741819) ∧ Fld Z h r0 "kombos/graph/Graph$Builder" "keys" "Lkombos/graph/KeyIndex;" .null ∧ Fld Z h r0 "kombos/graph/Graph$Builder" "edgeCount" "I" (.int 3) ∧ Fld Z h r0 "kombos/graph/Graph$Builder" "weights" "[[J" .null ∧ Fld Z h r0 "kombos/graph/Graph$Builder" "decimal" "Z" (.int 0) ∧ own_A Z h bs .int ((S.set 2 y1).map Value.int) ∧ own_A Z h bt .int ((T.set 2 y2).map Value.int)
set_option maxRecDepth 65536 in
set_option maxHeartbeats 40000000 in
theorem own_rm29_2 (l : Launch) (Z : State) (a0 : Array Value) (hw : ∀ d ∈ tables_1, d.before a0 Z = true) (ws : List Jvm.Cond) (r0 : Addr) (x1 : Int64) (x2 : Int64) (sa ta ix el : Addr) (y1 y2 : Int32) (bs bt : Addr) (S T : List Int32) (h0 : Heap) (n0 : Nat)  (Eb : Exa Z h0 r0 "kombos/graph/Graph$Builder") (Fb_sources : Fld Z h0 r0 "kombos/graph/Graph$Builder" "sources" "[[I" (.ref sa)) (Fb_targets : Fld Z h0 r0 "kombos/graph/Graph$Builder" "targets" "[[I" (.ref ta)) (Fb_vertexColumns : Fld Z h0 r0 "kombos/graph/Graph$Builder" "vertexColumns" "Ljava/util/List;" (.ref el)) (Fb_edgeColumns : Fld Z h0 r0 "kombos/graph/Graph$Builder" "edgeColumns" "Ljava/util/List;" (.ref el)) (Fb_directed : Fld Z h0 r0 "kombos/graph/Graph$Builder" "directed" "Z" (.int 0)) (Fb_maxVertices : Fld Z h0 r0 "kombos/graph/Graph$Builder" "maxVertices" "I" (.int 536870912)) (Fb_index : Fld Z h0 r0 "kombos/graph/Graph$Builder" "index" "Lkombos/graph/IdIndex;" (.ref ix)) (Fb_maxEdges : Fld Z h0 r0 "kombos/graph/Graph$Builder" "maxEdges" "I" (.int 1073741819)) (Fb_keys : Fld Z h0 r0 "kombos/graph/Graph$Builder" "keys" "Lkombos/graph/KeyIndex;" .null) (Fb_edgeCount : Fld Z h0 r0 "kombos/graph/Graph$Builder" "edgeCount" "I" (.int 2)) (Fb_weights : Fld Z h0 r0 "kombos/graph/Graph$Builder" "weights" "[[J" .null) (Fb_decimal : Fld Z h0 r0 "kombos/graph/Graph$Builder" "decimal" "Z" (.int 0)) (Ex : Exa Z h0 ix "kombos/graph/IdIndex") (Fx_maxSize : Fld Z h0 ix "kombos/graph/IdIndex" "maxSize" "I" (.int 536870912)) (Fx_ids : Fld Z h0 ix "kombos/graph/IdIndex" "ids" "[J" .null) (Fx_first : Fld Z h0 ix "kombos/graph/IdIndex" "first" "J" (.long 0)) (Fx_direct : Fld Z h0 ix "kombos/graph/IdIndex" "direct" "[I" .null) (Fx_slots : Fld Z h0 ix "kombos/graph/IdIndex" "slots" "[I" .null) (Fx_size : Fld Z h0 ix "kombos/graph/IdIndex" "size" "I" (.int 3)) (nsr : sa ≠ r0) (ntr : ta ≠ r0) (nir : ix ≠ r0) (nsi : sa ≠ ix) (nti : ta ≠ ix) (g : n0 ≤ r0) (p0 : 0 ≤ x1.toInt) (p1 : x1.toInt < 3) (q0 : 0 ≤ x2.toInt) (q1 : x2.toInt < 3) (hy1 : x1.toInt32 = y1) (hy2 : x2.toInt32 = y2) (As : own_A Z h0 sa (.array .int) ((List.replicate 16 .null).set 0 (.ref bs))) (At_ : own_A Z h0 ta (.array .int) ((List.replicate 16 .null).set 0 (.ref bt))) (Ab : own_A Z h0 bs .int (S.map Value.int)) (Ac : own_A Z h0 bt .int (T.map Value.int)) (lS : S.length = 8192) (lT : T.length = 8192) (gb : n0 ≤ bs) (gc : n0 ≤ bt) (nbc : bs ≠ bt) (nbsr0 : bs ≠ r0) (nbssa : bs ≠ sa) (nbsta : bs ≠ ta) (nbsix : bs ≠ ix) (nbtr0 : bt ≠ r0) (nbtsa : bt ≠ sa) (nbtta : bt ≠ ta) (nbtix : bt ≠ ix) (nst : sa ≠ ta) :
    own_Con l Z (⟨"kombos/graph/Graph$Builder", "addEdge", "(JJ)V"⟩ : MethodName) prog_45_method_8_code 6 none ws ({ frames := 4, cells := 0, slots := 0, locals := 64 } : Room) #[(.ref r0), (.long x1), (.long x2)] h0 n0 (own_Q_own_rm29_2 Z r0 sa ta ix el y1 y2 bs bt S T h0 n0) := by
  refine own_body (plainFor_of_name own_pn1) ?_
  intro p e s m below meth c T0 hx hZ hby hml hown hnm hret hlk Y0
  replace hown : s.vm.findClass "kombos/graph/Graph$Builder" = some m.cls := hown
  replace hnm : meth.name = "addEdge" := hnm
  rw [own_ef_own_rm29_2 m r0 x1 x2]
  show own_Ends _ _ _ _ (T0.setTop (mkF m 0 #[rv r0, .val (.long x1), .second, .val (.long x2), .second, .unset] []))
  refine o_aloadN Y0 hx hby d29_0 rfl rfl ?_
  refine o_lloadN Y0 hx hby d29_1 rfl ?_
  refine o_lloadN Y0 hx hby d29_2 rfl ?_
  refine own_callP Y0 hx hZ (y := (⟨"kombos/graph/Graph$Builder", "add", "(JJ)I"⟩ : MethodName)) hown (own_w hw 256 rfl) (own_w hw 257 rfl) (own_w hw 1 rfl) (own_w hw 258 rfl) (own_w hw 2 rfl) (own_w hw 259 rfl) (by decide) (a := r0) Eb (argsL := [(.long x1), (.long x2)]) (rest := []) (own_rm30_2 l Z a0 hw [] r0 x1 x2 sa ta ix el y1 y2 bs bt S T h0 n0  Eb Fb_sources Fb_targets Fb_vertexColumns Fb_edgeColumns Fb_directed Fb_maxVertices Fb_index Fb_maxEdges Fb_keys Fb_edgeCount Fb_weights Fb_decimal Ex Fx_maxSize Fx_ids Fx_first Fx_direct Fx_slots Fx_size nsr ntr nir nsi nti g p0 p1 q0 q1 hy1 hy2 As At_ Ab Ac lS lT gb gc nbc nbsr0 nbssa nbsta nbsix nbtr0 nbtsa nbtta nbtix nst) (W := 0) (by decide) (by decide) (by decide) (by decide) rfl (by rw [hml]; rfl) (lenOf own_pd4 rfl) rfl (by show 2 * 0 + _ ≤ _; exact Nat.le_of_eq rfl) (hb hby d29_3) (fun T1122 h1124 v1125 Y1123 q1126 => ?_)
  obtain ⟨rfl, K1127, F1128, F1129, F1130, F1131, F1132, F1133, F1134, F1135, F1136, F1137, F1138, F1139, F1140, F1141, F1142⟩ := q1126
  show own_Ends _ _ _ _ (T1122.setTop (mkF m 6 #[rv r0, .val (.long x1), .second, .val (.long x2), .second, .unset] [(.int 2)]))
  refine o_istore Y1123 hx hby d29_6 rfl (l' := #[rv r0, .val (.long x1), .second, .val (.long x2), .second, iv 2]) rfl ?_
  refine o_aloadN Y1123 hx hby d29_8 rfl rfl ?_
  refine p_getF Y1123 hx hZ hown (host := "") (Or.inl (own_w hw 100 rfl)) Via.refl F1139 hby rfl d29_9 (fun T1143 Y1144 => ?_)
  refine o_ifnullYes Y1144 hx hby (pc' := 36) d29_12 rfl (by decide) (by decide) ?_
  have K1145 : Keep h0 h1124 [r0, bs, bt] := (Keep.refl h0 [r0, bs, bt]).trans K1127 (allS (Or.inl (List.mem_of_getElem? (i := 0) rfl)) (allS (Or.inl (List.mem_of_getElem? (i := 1) rfl)) (allS (Or.inl (List.mem_of_getElem? (i := 2) rfl)) all0)))
  refine own_retV Y1144 hx hlk hret (hb hby d29_36) (by decide) (by decide) ?_
  exact ⟨rfl, K1145, F1128, F1129, F1130, F1131, F1132, F1133, F1134, F1135, F1136, F1137, F1138, F1139, F1140, F1141, F1142⟩
def own_okb (es : List Int32) (j : Int32) : Bool := decide (0 ≤ j.toInt ∧ j.toInt < (es.length : Int))
def own_at (es : List Int32) (j : Int32) : Int32 := own_g es j.toNatClampNeg
def own_put (es : List Int32) (j v : Int32) : List Int32 := es.set j.toNatClampNeg v
theorem own_okn {es : List Int32} {j : Int32} (h : own_okb es j = true) : ¬ j < 0 ∧ j.toNatClampNeg < es.length := by
  have q : 0 ≤ j.toInt ∧ j.toInt < (es.length : Int) := by simpa [own_okb] using h
  exact own_idx q.1 q.2
theorem own_putA {Z : State} {h : Heap} {b : Addr} {es e1 : List Int32} {j v : Int32} (q : e1 = own_put es j v) (A : own_A Z h b .int ((es.map Value.int).set j.toNatClampNeg (.int v))) : own_A Z h b .int (e1.map Value.int) := by
  rw [q, own_put, List.map_set]; exact A
def own_cnt (ss tt : List Int32) : Nat → Nat → List Int32 → Option (List Int32)
  | 0, _, es => some es
  | f + 1, i, es => if own_okb es (own_g ss i + 1) = true ∧ own_okb (own_put es (own_g ss i + 1) (own_at es (own_g ss i + 1) + 1)) (own_g tt i + 1) = true then
      own_cnt ss tt f (i + 1) (own_put (own_put es (own_g ss i + 1) (own_at es (own_g ss i + 1) + 1)) (own_g tt i + 1) (own_at (own_put es (own_g ss i + 1) (own_at es (own_g ss i + 1) + 1)) (own_g tt i + 1) + 1)) else none
theorem own_cnt_inv {ss tt es R : List Int32} {f i : Nat} (h : own_cnt ss tt (f + 1) i es = some R) : ∃ e1 e2, e1 = own_put es (own_g ss i + 1) (own_at es (own_g ss i + 1) + 1) ∧ e2 = own_put e1 (own_g tt i + 1) (own_at e1 (own_g tt i + 1) + 1) ∧ own_okb es (own_g ss i + 1) = true ∧ own_okb e1 (own_g tt i + 1) = true ∧ own_cnt ss tt f (i + 1) e2 = some R := by
  simp only [own_cnt] at h
  split at h
  · rename_i q; exact ⟨_, _, rfl, rfl, q.1, q.2, h⟩
  · cases h
def own_plc (ss tt : List Int32) : Nat → Nat → List Int32 → List Int32 → Option (List Int32 × List Int32)
  | 0, _, es, tg => some (es, tg)
  | f + 1, i, es, tg =>
    let o := own_at es (own_g ss i); let e1 := own_put es (own_g ss i) (o + 1); let g1 := own_put tg o (own_g tt i); let q := own_at e1 (own_g tt i)
    if own_okb es (own_g ss i) = true ∧ own_okb tg o = true ∧ own_okb e1 (own_g tt i) = true ∧ own_okb g1 q = true then own_plc ss tt f (i + 1) (own_put e1 (own_g tt i) (q + 1)) (own_put g1 q (own_g ss i)) else none
theorem own_plc_inv {ss tt es tg : List Int32} {R : List Int32 × List Int32} {f i : Nat} (h : own_plc ss tt (f + 1) i es tg = some R) : ∃ (o q : Int32) (e1 e2 g1 g2 : List Int32), o = own_at es (own_g ss i) ∧ e1 = own_put es (own_g ss i) (o + 1) ∧ g1 = own_put tg o (own_g tt i) ∧ q = own_at e1 (own_g tt i) ∧ e2 = own_put e1 (own_g tt i) (q + 1) ∧ g2 = own_put g1 q (own_g ss i) ∧
    own_okb es (own_g ss i) = true ∧ own_okb tg o = true ∧ own_okb e1 (own_g tt i) = true ∧ own_okb g1 q = true ∧ own_plc ss tt f (i + 1) e2 g2 = some R := by
  simp only [own_plc] at h
  split at h
  · rename_i z; exact ⟨_, _, _, _, _, _, rfl, rfl, rfl, rfl, rfl, rfl, z.1, z.2.1, z.2.2.1, z.2.2.2, h⟩
  · cases h
def own_min (x y : Int32) : Int32 := if y < x then y else x
def bc24 : ByteArray := jdk_29_method_69_code
theorem d24_0 : decode bc24 0 = .ok (.iload_n 0, 1) := by decide +kernel
theorem d24_1 : decode bc24 1 = .ok (.iload_n 1, 1) := by decide +kernel
theorem d24_2 : decode bc24 2 = .ok (.if_icmp .gt 7, 3) := by decide +kernel
theorem d24_9 : decode bc24 9 = .ok (.iload_n 1, 1) := by decide +kernel
theorem d24_10 : decode bc24 10 = .ok (.ireturn, 1) := by decide +kernel
theorem d24_5 : decode bc24 5 = .ok (.iload_n 0, 1) := by decide +kernel
theorem d24_6 : decode bc24 6 = .ok (.goto 4, 3) := by decide +kernel
theorem own_ef_own_rm24 (m : MethodId) (x0 : Int32) (x1 : Int32) : entryFrame m #[(.int x0), (.int x1)] 2 = mkF m 0 #[iv x0, iv x1] [] := by first | (simp [entryFrame, mkF, argsToLocals, Value.category]; done) | rfl
def own_Q_own_rm24 (Z : State) (x0 : Int32) (x1 : Int32) (h0 : Heap) (n0 : Nat) (v : Option Value) (h : Heap) : Prop := v = some (.int (own_min x0 x1)) ∧ h0 = h
set_option maxRecDepth 65536 in
set_option maxHeartbeats 40000000 in
theorem own_rm24 (l : Launch) (Z : State) (a0 : Array Value) (hw : ∀ d ∈ tables_1, d.before a0 Z = true) (ws : List Jvm.Cond) (x0 : Int32) (x1 : Int32)  (h0 : Heap) (n0 : Nat)   :
    own_Con l Z (⟨"java/lang/Math", "min", "(II)I"⟩ : MethodName) jdk_29_method_69_code 2 (some .int) ws ({ frames := 0, cells := 0, slots := 0, locals := 0 } : Room) #[(.int x0), (.int x1)] h0 n0 (own_Q_own_rm24 Z x0 x1 h0 n0) := by
  refine own_body (Jvm.Free.JP.mathPlain rfl (by decide +kernel)) ?_
  intro p e s m below meth c T0 hx hZ hby hml hown hnm hret hlk Y0
  replace hown : s.vm.findClass "java/lang/Math" = some m.cls := hown
  replace hnm : meth.name = "min" := hnm
  rw [own_ef_own_rm24 m x0 x1]
  show own_Ends _ _ _ _ (T0.setTop (mkF m 0 #[iv x0, iv x1] []))
  refine o_iloadN Y0 hx hby d24_0 rfl ?_
  refine o_iloadN Y0 hx hby d24_1 rfl ?_
  by_cases c2_1146 : x1 < x0
  ·
   refine o_icmpYes Y0 hx hby (pc' := 9) d24_2 rfl (XT.ii_gt_t c2_1146) (by decide) (by decide) ?_
   refine o_iloadN Y0 hx hby d24_9 rfl ?_
   refine own_retI Y0 hx hlk hret (hb hby d24_10) (by decide) (by decide) ?_
   exact ⟨by simp [own_min, c2_1146], rfl⟩
  ·
   refine o_icmpNo Y0 hx hby d24_2 rfl (XT.ii_gt_f c2_1146) ?_
   refine o_iloadN Y0 hx hby d24_5 rfl ?_
   refine o_goto Y0 hx hby (pc' := 10) d24_6 (by decide) (by decide) ?_
   refine own_retI Y0 hx hlk hret (hb hby d24_10) (by decide) (by decide) ?_
   exact ⟨by simp [own_min, c2_1146], rfl⟩
theorem own_pd5 : parseMethodDescriptor "(II)I" = some ⟨[.int, .int], some .int⟩ := by decide +kernel
def bc33 : ByteArray := prog_45_method_19_code
theorem d33_0 : decode bc33 0 = .ok (.sipush 8192, 3) := by decide +kernel
theorem d33_3 : decode bc33 3 = .ok (.aload_n 0, 1) := by decide +kernel
theorem d33_4 : decode bc33 4 = .ok (.getfield 180, 3) := by decide +kernel
theorem d33_7 : decode bc33 7 = .ok (.iload_n 1, 1) := by decide +kernel
theorem d33_8 : decode bc33 8 = .ok (.bipush 13, 2) := by decide +kernel
theorem d33_10 : decode bc33 10 = .ok (.ishl, 1) := by decide +kernel
theorem d33_11 : decode bc33 11 = .ok (.isub, 1) := by decide +kernel
theorem d33_12 : decode bc33 12 = .ok (.invokestatic 222, 3) := by decide +kernel
theorem d33_15 : decode bc33 15 = .ok (.ireturn, 1) := by decide +kernel
theorem own_ef_own_rm33 (m : MethodId) (r0 : Addr) : entryFrame m #[(.ref r0), (.int 0)] 2 = mkF m 0 #[rv r0, iv 0] [] := by first | (simp [entryFrame, mkF, argsToLocals, Value.category]; done) | rfl
def own_Q_own_rm33 (Z : State) (kk : Int32) (h0 : Heap) (n0 : Nat) (v : Option Value) (h : Heap) : Prop := v = some (.int kk) ∧ h0 = h
set_option maxRecDepth 65536 in
set_option maxHeartbeats 40000000 in
theorem own_rm33 (l : Launch) (Z : State) (a0 : Array Value) (hw : ∀ d ∈ tables_1, d.before a0 Z = true) (ws : List Jvm.Cond) (r0 : Addr) (kk : Int32) (h0 : Heap) (n0 : Nat)  (Eb : Exa Z h0 r0 "kombos/graph/Graph$Builder") (Fb_edgeCount : Fld Z h0 r0 "kombos/graph/Graph$Builder" "edgeCount" "I" (.int kk)) (hk3 : kk.toInt ≤ 3) :
    own_Con l Z (⟨"kombos/graph/Graph$Builder", "blockCount", "(I)I"⟩ : MethodName) prog_45_method_19_code 2 (some .int) ws ({ frames := 1, cells := 0, slots := 0, locals := 13 } : Room) #[(.ref r0), (.int 0)] h0 n0 (own_Q_own_rm33 Z kk h0 n0) := by
  refine own_body (plainFor_of_name own_pn1) ?_
  intro p e s m below meth c T0 hx hZ hby hml hown hnm hret hlk Y0
  replace hown : s.vm.findClass "kombos/graph/Graph$Builder" = some m.cls := hown
  replace hnm : meth.name = "blockCount" := hnm
  rw [own_ef_own_rm33 m r0]
  show own_Ends _ _ _ _ (T0.setTop (mkF m 0 #[rv r0, iv 0] []))
  refine o_sipush Y0 hx hby d33_0 (x := 8192) rfl ?_
  refine o_aloadN Y0 hx hby d33_3 rfl rfl ?_
  refine p_getF Y0 hx hZ hown (host := "") (Or.inl (own_w hw 97 rfl)) Via.refl Fb_edgeCount hby rfl d33_4 (fun T1147 Y1148 => ?_)
  refine o_iloadN Y1148 hx hby d33_7 rfl ?_
  refine o_bipush Y1148 hx hby d33_8 (x := 13) rfl ?_
  refine own_st (fun t_ => XS.ishl (own_here Y1148) hx rfl (hb hby d33_10) rfl) ?_
  show own_Ends _ _ _ _ (T1147.setTop (mkF m 11 #[rv r0, iv 0] [(.int 0), (.int kk), (.int 8192)]))
  refine o_isub Y1148 hx hby d33_11 rfl rfl ?_
  refine own_callS Y1148 hx hZ (y := (⟨"java/lang/Math", "min", "(II)I"⟩ : MethodName)) hown (own_w hw 273 rfl) (own_w hw 185 rfl) (own_w hw 178 rfl) (own_w hw 186 rfl) (by decide) (argsL := [(.int 8192), (.int (kk - (0 : Int32)))]) (rest := []) (own_rm24 l Z a0 hw [] (8192 : Int32) (kk - (0 : Int32))  h0 n0  ) (W := 0) (by decide) (by decide) (by decide) (by decide) rfl (by rw [hml]; rfl) (lenOf own_pd5 rfl) rfl (by show 2 * 0 + _ ≤ _; exact Nat.le_of_eq rfl) (hb hby d33_12) (fun T1149 h1151 v1152 Y1150 q1153 => ?_)
  obtain ⟨rfl, rfl⟩ := q1153
  show own_Ends _ _ _ _ (T1149.setTop (mkF m 15 #[rv r0, iv 0] [(.int (own_min (8192 : Int32) (kk - (0 : Int32))))]))
  refine own_retI Y1150 hx hlk hret (hb hby d33_15) (by decide) (by decide) ?_
  have e8 : (8192 : Int32).toInt = 8192 := rfl
  have e0 : kk - (0 : Int32) = kk := by simp
  have q : own_min 8192 (kk - 0) = kk := by rw [e0, own_min, if_pos]; rw [own_lt]; omega
  exact ⟨by rw [q], rfl⟩
theorem own_pd6 : parseMethodDescriptor "(I)I" = some ⟨[.int], some .int⟩ := by decide +kernel
def bc32 : ByteArray := prog_45_method_20_code
theorem d32_0 : decode bc32 0 = .ok (.aload_n 0, 1) := by decide +kernel
theorem d32_1 : decode bc32 1 = .ok (.getfield 20, 3) := by decide +kernel
theorem d32_4 : decode bc32 4 = .ok (.iload_n 2, 1) := by decide +kernel
theorem d32_5 : decode bc32 5 = .ok (.aaload, 1) := by decide +kernel
theorem d32_6 : decode bc32 6 = .ok (.astore_n 3, 1) := by decide +kernel
theorem d32_7 : decode bc32 7 = .ok (.aload_n 0, 1) := by decide +kernel
theorem d32_8 : decode bc32 8 = .ok (.getfield 24, 3) := by decide +kernel
theorem d32_11 : decode bc32 11 = .ok (.iload_n 2, 1) := by decide +kernel
theorem d32_12 : decode bc32 12 = .ok (.aaload, 1) := by decide +kernel
theorem d32_13 : decode bc32 13 = .ok (.astore 4, 2) := by decide +kernel
theorem d32_15 : decode bc32 15 = .ok (.iconst 0, 1) := by decide +kernel
theorem d32_16 : decode bc32 16 = .ok (.istore 5, 2) := by decide +kernel
theorem d32_18 : decode bc32 18 = .ok (.aload_n 0, 1) := by decide +kernel
theorem d32_19 : decode bc32 19 = .ok (.iload_n 2, 1) := by decide +kernel
theorem d32_20 : decode bc32 20 = .ok (.invokevirtual 228, 3) := by decide +kernel
theorem d32_23 : decode bc32 23 = .ok (.istore 6, 2) := by decide +kernel
theorem d32_25 : decode bc32 25 = .ok (.iload 5, 2) := by decide +kernel
theorem d32_27 : decode bc32 27 = .ok (.iload 6, 2) := by decide +kernel
theorem d32_29 : decode bc32 29 = .ok (.if_icmp .ge 41, 3) := by decide +kernel
theorem d32_32 : decode bc32 32 = .ok (.aload_n 1, 1) := by decide +kernel
theorem d32_33 : decode bc32 33 = .ok (.aload_n 3, 1) := by decide +kernel
theorem d32_34 : decode bc32 34 = .ok (.iload 5, 2) := by decide +kernel
theorem d32_36 : decode bc32 36 = .ok (.iaload, 1) := by decide +kernel
theorem d32_37 : decode bc32 37 = .ok (.iconst 1, 1) := by decide +kernel
theorem d32_38 : decode bc32 38 = .ok (.iadd, 1) := by decide +kernel
theorem d32_39 : decode bc32 39 = .ok (.dup2, 1) := by decide +kernel
theorem d32_40 : decode bc32 40 = .ok (.iaload, 1) := by decide +kernel
theorem d32_41 : decode bc32 41 = .ok (.iconst 1, 1) := by decide +kernel
theorem d32_42 : decode bc32 42 = .ok (.iadd, 1) := by decide +kernel
theorem d32_43 : decode bc32 43 = .ok (.iastore, 1) := by decide +kernel
theorem d32_44 : decode bc32 44 = .ok (.aload_n 0, 1) := by decide +kernel
theorem d32_45 : decode bc32 45 = .ok (.getfield 40, 3) := by decide +kernel
theorem d32_48 : decode bc32 48 = .ok (.ifCond .ne 16, 3) := by decide +kernel
theorem d32_51 : decode bc32 51 = .ok (.aload_n 1, 1) := by decide +kernel
theorem d32_52 : decode bc32 52 = .ok (.aload 4, 2) := by decide +kernel
theorem d32_54 : decode bc32 54 = .ok (.iload 5, 2) := by decide +kernel
theorem d32_56 : decode bc32 56 = .ok (.iaload, 1) := by decide +kernel
theorem d32_57 : decode bc32 57 = .ok (.iconst 1, 1) := by decide +kernel
theorem d32_58 : decode bc32 58 = .ok (.iadd, 1) := by decide +kernel
theorem d32_59 : decode bc32 59 = .ok (.dup2, 1) := by decide +kernel
theorem d32_60 : decode bc32 60 = .ok (.iaload, 1) := by decide +kernel
theorem d32_61 : decode bc32 61 = .ok (.iconst 1, 1) := by decide +kernel
theorem d32_62 : decode bc32 62 = .ok (.iadd, 1) := by decide +kernel
theorem d32_63 : decode bc32 63 = .ok (.iastore, 1) := by decide +kernel
theorem d32_64 : decode bc32 64 = .ok (.iinc 5 1, 3) := by decide +kernel
theorem d32_67 : decode bc32 67 = .ok (.goto (-42), 3) := by decide +kernel
theorem d32_70 : decode bc32 70 = .ok (.return_, 1) := by decide +kernel
theorem own_ef_own_rm32 (m : MethodId) (r0 : Addr) (r1 : Addr) : entryFrame m #[(.ref r0), (.ref r1), (.int 0)] 7 = mkF m 0 #[rv r0, rv r1, iv 0, .unset, .unset, .unset, .unset] [] := by first | (simp [entryFrame, mkF, argsToLocals, Value.category]; done) | rfl
def own_Q_own_rm32 (Z : State) (r1 : Addr) (RR : List Int32) (h0 : Heap) (n0 : Nat) (v : Option Value) (h : Heap) : Prop := v = none ∧ Keep h0 h [r1] ∧ own_A Z h r1 .int (RR.map Value.int)
set_option maxRecDepth 65536 in
set_option maxHeartbeats 40000000 in
theorem own_rm32 (l : Launch) (Z : State) (a0 : Array Value) (hw : ∀ d ∈ tables_1, d.before a0 Z = true) (ws : List Jvm.Cond) (r0 : Addr) (r1 : Addr) (sa ta bs bt : Addr) (S T ss tt : List Int32) (kk : Int32) (nn : Nat) (es0 RR : List Int32) (h0 : Heap) (n0 : Nat) (Z0 : n0 ≤ h0.size) (Eb : Exa Z h0 r0 "kombos/graph/Graph$Builder") (Fb_sources : Fld Z h0 r0 "kombos/graph/Graph$Builder" "sources" "[[I" (.ref sa)) (Fb_targets : Fld Z h0 r0 "kombos/graph/Graph$Builder" "targets" "[[I" (.ref ta)) (Fb_directed : Fld Z h0 r0 "kombos/graph/Graph$Builder" "directed" "Z" (.int 0)) (Fb_edgeCount : Fld Z h0 r0 "kombos/graph/Graph$Builder" "edgeCount" "I" (.int kk)) (Fb_weights : Fld Z h0 r0 "kombos/graph/Graph$Builder" "weights" "[[J" .null) (As : own_A Z h0 sa (.array .int) ((List.replicate 16 .null).set 0 (.ref bs))) (At_ : own_A Z h0 ta (.array .int) ((List.replicate 16 .null).set 0 (.ref bt))) (Ab : own_A Z h0 bs .int (S.map Value.int)) (Ac : own_A Z h0 bt .int (T.map Value.int)) (lS : S.length = 8192) (lT : T.length = 8192) (hS : ∀ i, i < nn → own_g S i = own_g ss i) (hT : ∀ i, i < nn → own_g T i = own_g tt i) (hkk : kk.toInt = (nn : Int)) (hn3 : nn ≤ 3) (A1_ : own_A Z h0 r1 .int (es0.map Value.int)) (hR0 : own_cnt ss tt nn 0 es0 = some RR) (g1 : n0 ≤ r1) (mr0 : r0 ≠ r1) (mbs : bs ≠ r1) (mbt : bt ≠ r1) (hk3 : kk.toInt ≤ 3) :
    own_Con l Z (⟨"kombos/graph/Graph$Builder", "countEnds", "([II)V"⟩ : MethodName) prog_45_method_20_code 7 none ws ({ frames := 2, cells := 0, slots := 0, locals := 26 } : Room) #[(.ref r0), (.ref r1), (.int 0)] h0 n0 (own_Q_own_rm32 Z r1 RR h0 n0) := by
  refine own_body (plainFor_of_name own_pn1) ?_
  intro p e s m below meth c T0 hx hZ hby hml hown hnm hret hlk Y0
  replace hown : s.vm.findClass "kombos/graph/Graph$Builder" = some m.cls := hown
  replace hnm : meth.name = "countEnds" := hnm
  rw [own_ef_own_rm32 m r0 r1]
  show own_Ends _ _ _ _ (T0.setTop (mkF m 0 #[rv r0, rv r1, iv 0, .unset, .unset, .unset, .unset] []))
  refine o_aloadN Y0 hx hby d32_0 rfl rfl ?_
  refine p_getF Y0 hx hZ hown (host := "") (Or.inl (own_w hw 16 rfl)) Via.refl Fb_sources hby rfl d32_1 (fun T1154 Y1155 => ?_)
  refine o_iloadN Y1155 hx hby d32_4 rfl ?_
  refine p_ldR Y1155 hx hZ As rfl (i := 0) (by decide) (by decide) (by simp) (v := (.ref bs)) rfl hby rfl d32_5 ?_
  refine o_astoreN Y1155 hx hby d32_6 rfl rfl (l' := #[rv r0, rv r1, iv 0, rv bs, .unset, .unset, .unset]) rfl ?_
  refine o_aloadN Y1155 hx hby d32_7 rfl rfl ?_
  refine p_getF Y1155 hx hZ hown (host := "") (Or.inl (own_w hw 18 rfl)) Via.refl Fb_targets hby rfl d32_8 (fun T1156 Y1157 => ?_)
  refine o_iloadN Y1157 hx hby d32_11 rfl ?_
  refine p_ldR Y1157 hx hZ At_ rfl (i := 0) (by decide) (by decide) (by simp) (v := (.ref bt)) rfl hby rfl d32_12 ?_
  refine o_astore Y1157 hx hby d32_13 rfl rfl (l' := #[rv r0, rv r1, iv 0, rv bs, rv bt, .unset, .unset]) rfl ?_
  refine o_iconst Y1157 hx hby d32_15 (x := 0) rfl ?_
  refine o_istore Y1157 hx hby d32_16 rfl (l' := #[rv r0, rv r1, iv 0, rv bs, rv bt, iv 0, .unset]) rfl ?_
  refine o_aloadN Y1157 hx hby d32_18 rfl rfl ?_
  refine o_iloadN Y1157 hx hby d32_19 rfl ?_
  refine own_callP Y1157 hx hZ (y := (⟨"kombos/graph/Graph$Builder", "blockCount", "(I)I"⟩ : MethodName)) hown (own_w hw 269 rfl) (own_w hw 270 rfl) (own_w hw 1 rfl) (own_w hw 271 rfl) (own_w hw 2 rfl) (own_w hw 272 rfl) (by decide) (a := r0) Eb (argsL := [(.int 0)]) (rest := []) (own_rm33 l Z a0 hw [] r0 kk h0 n0  Eb Fb_edgeCount hk3) (W := 0) (by decide) (by decide) (by decide) (by decide) rfl (by rw [hml]; rfl) (lenOf own_pd6 rfl) rfl (by show 2 * 0 + _ ≤ _; exact Nat.le_of_eq rfl) (hb hby d32_20) (fun T1158 h1160 v1161 Y1159 q1162 => ?_)
  obtain ⟨rfl, rfl⟩ := q1162
  show own_Ends _ _ _ _ (T1158.setTop (mkF m 23 #[rv r0, rv r1, iv 0, rv bs, rv bt, iv 0, .unset] [(.int kk)]))
  refine o_istore Y1159 hx hby d32_23 rfl (l' := #[rv r0, rv r1, iv 0, rv bs, rv bt, iv 0, iv kk]) rfl ?_
  show own_Ends _ _ _ _ (T1158.setTop (mkF m 25 #[rv r0, rv r1, iv 0, rv bs, rv bt, iv 0, iv kk] []))
  have hL1163 : ∀ (k : Nat) (T1164 : State) (h1166 : Heap) (i : Nat) (j : Int32) (es : List Int32) (Y1165 : own_S p l e ({ frames := 2, cells := 0, slots := 0, locals := 26 } : Room) s m #[(.ref r0), (.ref r1), (.int 0)] below meth c n0 T1164 h1166 0 0) (z1167 : n0 ≤ h1166.size) (f1168 : Exa Z h1166 r0 "kombos/graph/Graph$Builder") (f1169 : Fld Z h1166 r0 "kombos/graph/Graph$Builder" "directed" "Z" (.int 0)) (f1170 : own_A Z h1166 bs .int (S.map Value.int)) (f1171 : own_A Z h1166 bt .int (T.map Value.int)) (f1172 : own_A Z h1166 r1 .int (es.map Value.int)) (KL : Keep h0 h1166 [r1]) (hj : j.toInt = (i : Int)) (hik : i + k = nn) (hR : own_cnt ss tt k i es = some RR), own_Ends p.tables e below (own_P s n0 (own_Q_own_rm32 Z r1 RR h0 n0) ({ frames := 2, cells := 0, slots := 0, locals := 26 } : Room).cells ({ frames := 2, cells := 0, slots := 0, locals := 26 } : Room).slots) (T1164.setTop (mkF m 25 #[rv r0, rv r1, iv 0, rv bs, rv bt, iv j, iv kk] [])) := by
   intro k
   induction k using Nat.strongRecOn with
   | _ k ih =>
    intro T1164 h1166 i j es Y1165 z1167 f1168 f1169 f1170 f1171 f1172 KL hj hik hR
    obtain ⟨hj0, hj1⟩ := own_nat hj
    refine o_iload Y1165 hx hby d32_25 rfl ?_
    refine o_iload Y1165 hx hby d32_27 rfl ?_
    by_cases c29_1173 : j < kk
    ·
     refine o_icmpNo Y1165 hx hby d32_29 rfl (XT.ii_ge_f c29_1173) ?_
     show own_Ends _ _ _ _ (T1164.setTop (mkF m 32 #[rv r0, rv r1, iv 0, rv bs, rv bt, iv j, iv kk] []))
     have hlt : i < nn := by have := c29_1173; rw [own_lt, hj, hkk] at this; omega
     obtain ⟨k', rfl⟩ : ∃ k', k = k' + 1 := ⟨k - 1, by omega⟩
     obtain ⟨e1, e2, he1, he2, ok1, ok2, hR2⟩ := own_cnt_inv hR
     refine o_aloadN Y1165 hx hby d32_32 rfl rfl ?_
     refine o_aloadN Y1165 hx hby d32_33 rfl rfl ?_
     refine o_iload Y1165 hx hby d32_34 rfl ?_
     refine p_ldI Y1165 hx hZ f1170 (i := i) hj0 hj1 (own_mlen (by rw [lS]; omega)) (v := (.int (own_g ss i))) (by rw [← hS i hlt]; exact own_mget (own_mlen (by rw [lS]; omega))) hby rfl d32_36 ?_
     refine o_iconst Y1165 hx hby d32_37 (x := 1) rfl ?_
     refine o_iadd Y1165 hx hby d32_38 rfl rfl ?_
     refine o_dup2 Y1165 hx hby d32_39 rfl rfl rfl ?_
     refine p_ldI Y1165 hx hZ f1172 (i := (((own_g ss i) + (1 : Int32))).toNatClampNeg) (own_okn ok1).1 rfl (own_mlen (own_okn ok1).2) (v := (.int (own_at es ((own_g ss i) + (1 : Int32))))) (own_mget (own_mlen (own_okn ok1).2)) hby rfl d32_40 ?_
     refine o_iconst Y1165 hx hby d32_41 (x := 1) rfl ?_
     refine o_iadd Y1165 hx hby d32_42 rfl rfl ?_
     refine p_stI Y1165 hx hZ f1172 g1 (i := (((own_g ss i) + (1 : Int32))).toNatClampNeg) (own_okn ok1).1 rfl (own_mlen (own_okn ok1).2) hby rfl d32_43 (fun T1174 h1176 Y1175 W1177 A1178 => ?_)
     show own_Ends _ _ _ _ (T1174.setTop (mkF m 44 #[rv r0, rv r1, iv 0, rv bs, rv bt, iv j, iv kk] []))
     have A1179 : own_A Z h1176 r1 .int (e1.map Value.int) := own_putA he1 A1178
     refine o_aloadN Y1175 hx hby d32_44 rfl rfl ?_
     have f1180 := f1169.other W1177 (Or.inl mr0)
     refine p_getF Y1175 hx hZ hown (host := "") (Or.inl (own_w hw 30 rfl)) Via.refl f1180 hby rfl d32_45 (fun T1181 Y1182 => ?_)
     refine o_ifNo Y1182 hx hby d32_48 rfl (XT.i0_ne_f (by decide)) ?_
     refine o_aloadN Y1182 hx hby d32_51 rfl rfl ?_
     refine o_aload Y1182 hx hby d32_52 rfl rfl ?_
     refine o_iload Y1182 hx hby d32_54 rfl ?_
     have f1183 := f1171.other W1177 mbt
     refine p_ldI Y1182 hx hZ f1183 (i := i) hj0 hj1 (own_mlen (by rw [lT]; omega)) (v := (.int (own_g tt i))) (by rw [← hT i hlt]; exact own_mget (own_mlen (by rw [lT]; omega))) hby rfl d32_56 ?_
     refine o_iconst Y1182 hx hby d32_57 (x := 1) rfl ?_
     refine o_iadd Y1182 hx hby d32_58 rfl rfl ?_
     refine o_dup2 Y1182 hx hby d32_59 rfl rfl rfl ?_
     refine p_ldI Y1182 hx hZ A1179 (i := (((own_g tt i) + (1 : Int32))).toNatClampNeg) (own_okn ok2).1 rfl (own_mlen (own_okn ok2).2) (v := (.int (own_at e1 ((own_g tt i) + (1 : Int32))))) (own_mget (own_mlen (own_okn ok2).2)) hby rfl d32_60 ?_
     refine o_iconst Y1182 hx hby d32_61 (x := 1) rfl ?_
     refine o_iadd Y1182 hx hby d32_62 rfl rfl ?_
     refine p_stI Y1182 hx hZ A1179 g1 (i := (((own_g tt i) + (1 : Int32))).toNatClampNeg) (own_okn ok2).1 rfl (own_mlen (own_okn ok2).2) hby rfl d32_63 (fun T1184 h1186 Y1185 W1187 A1188 => ?_)
     show own_Ends _ _ _ _ (T1184.setTop (mkF m 64 #[rv r0, rv r1, iv 0, rv bs, rv bt, iv j, iv kk] []))
     have A1189 : own_A Z h1186 r1 .int (e2.map Value.int) := own_putA he2 A1188
     refine o_iinc Y1185 hx hby d32_64 rfl (l' := #[rv r0, rv r1, iv 0, rv bs, rv bt, iv (j + (1 : Int32)), iv kk]) rfl ?_
     refine o_goto Y1185 hx hby (pc' := 25) d32_67 (by decide) (by decide) ?_
     have z1190 : n0 ≤ h1176.size := Nat.le_trans z1167 (Nat.le_of_eq W1177.size.symm)
     have z1191 : n0 ≤ h1186.size := Nat.le_trans z1190 (Nat.le_of_eq W1187.size.symm)
     have f1192 := f1168.wr W1177
     have f1193 := f1192.wr W1187
     have f1194 := f1180.other W1187 (Or.inl mr0)
     have f1195 := f1170.other W1177 mbs
     have f1196 := f1195.other W1187 mbs
     have f1197 := f1183.other W1187 mbt
     have K1198 : Keep h0 h1166 [r1] := KL
     have K1199 : Keep h0 h1176 [r1] := K1198.wr W1177 (Or.inl (List.mem_of_getElem? (i := 0) rfl))
     have K1200 : Keep h0 h1186 [r1] := K1199.wr W1187 (Or.inl (List.mem_of_getElem? (i := 0) rfl))
     exact ih k' (by omega) T1184 h1186 (i + 1) ((j + (1 : Int32))) (e2) Y1185 z1191 f1193 f1194 f1196 f1197 A1189 K1200 (own_inc hj (by omega)) (by omega) hR2
    ·
     refine o_icmpYes Y1165 hx hby (pc' := 70) d32_29 rfl (XT.ii_ge_t c29_1173) (by decide) (by decide) ?_
     have hk0 : k = 0 := by have := c29_1173; rw [own_lt, hj, hkk] at this; omega
     subst hk0
     have hes : es = RR := by simpa [own_cnt] using hR
     have K1201 : Keep h0 h1166 [r1] := KL
     refine own_retV Y1165 hx hlk hret (hb hby d32_70) (by decide) (by decide) ?_
     exact ⟨rfl, K1201, hes ▸ f1172⟩
  exact hL1163 nn T1158 h0 (0) (0) (es0) Y1159 Z0 Eb Fb_directed Ab Ac A1_ (Keep.refl h0 [r1]) rfl (by omega) hR0
def bc34 : ByteArray := prog_45_method_21_code
theorem d34_0 : decode bc34 0 = .ok (.aload_n 0, 1) := by decide +kernel
theorem d34_1 : decode bc34 1 = .ok (.getfield 20, 3) := by decide +kernel
theorem d34_4 : decode bc34 4 = .ok (.iload 4, 2) := by decide +kernel
theorem d34_6 : decode bc34 6 = .ok (.aaload, 1) := by decide +kernel
theorem d34_7 : decode bc34 7 = .ok (.astore 5, 2) := by decide +kernel
theorem d34_9 : decode bc34 9 = .ok (.aload_n 0, 1) := by decide +kernel
theorem d34_10 : decode bc34 10 = .ok (.getfield 24, 3) := by decide +kernel
theorem d34_13 : decode bc34 13 = .ok (.iload 4, 2) := by decide +kernel
theorem d34_15 : decode bc34 15 = .ok (.aaload, 1) := by decide +kernel
theorem d34_16 : decode bc34 16 = .ok (.astore 6, 2) := by decide +kernel
theorem d34_18 : decode bc34 18 = .ok (.aload_n 0, 1) := by decide +kernel
theorem d34_19 : decode bc34 19 = .ok (.getfield 134, 3) := by decide +kernel
theorem d34_22 : decode bc34 22 = .ok (.ifnonnull 7, 3) := by decide +kernel
theorem d34_25 : decode bc34 25 = .ok (.aconst_null, 1) := by decide +kernel
theorem d34_26 : decode bc34 26 = .ok (.goto 10, 3) := by decide +kernel
theorem d34_36 : decode bc34 36 = .ok (.astore 7, 2) := by decide +kernel
theorem d34_38 : decode bc34 38 = .ok (.iconst 0, 1) := by decide +kernel
theorem d34_39 : decode bc34 39 = .ok (.istore 8, 2) := by decide +kernel
theorem d34_41 : decode bc34 41 = .ok (.aload_n 0, 1) := by decide +kernel
theorem d34_42 : decode bc34 42 = .ok (.iload 4, 2) := by decide +kernel
theorem d34_44 : decode bc34 44 = .ok (.invokevirtual 228, 3) := by decide +kernel
theorem d34_47 : decode bc34 47 = .ok (.istore 9, 2) := by decide +kernel
theorem d34_49 : decode bc34 49 = .ok (.iload 8, 2) := by decide +kernel
theorem d34_51 : decode bc34 51 = .ok (.iload 9, 2) := by decide +kernel
theorem d34_53 : decode bc34 53 = .ok (.if_icmp .ge 90, 3) := by decide +kernel
theorem d34_56 : decode bc34 56 = .ok (.aload_n 1, 1) := by decide +kernel
theorem d34_57 : decode bc34 57 = .ok (.aload 5, 2) := by decide +kernel
theorem d34_59 : decode bc34 59 = .ok (.iload 8, 2) := by decide +kernel
theorem d34_61 : decode bc34 61 = .ok (.iaload, 1) := by decide +kernel
theorem d34_62 : decode bc34 62 = .ok (.dup2, 1) := by decide +kernel
theorem d34_63 : decode bc34 63 = .ok (.iaload, 1) := by decide +kernel
theorem d34_64 : decode bc34 64 = .ok (.dup_x2, 1) := by decide +kernel
theorem d34_65 : decode bc34 65 = .ok (.iconst 1, 1) := by decide +kernel
theorem d34_66 : decode bc34 66 = .ok (.iadd, 1) := by decide +kernel
theorem d34_67 : decode bc34 67 = .ok (.iastore, 1) := by decide +kernel
theorem d34_68 : decode bc34 68 = .ok (.istore 10, 2) := by decide +kernel
theorem d34_70 : decode bc34 70 = .ok (.aload_n 2, 1) := by decide +kernel
theorem d34_71 : decode bc34 71 = .ok (.iload 10, 2) := by decide +kernel
theorem d34_73 : decode bc34 73 = .ok (.aload 6, 2) := by decide +kernel
theorem d34_75 : decode bc34 75 = .ok (.iload 8, 2) := by decide +kernel
theorem d34_77 : decode bc34 77 = .ok (.iaload, 1) := by decide +kernel
theorem d34_78 : decode bc34 78 = .ok (.iastore, 1) := by decide +kernel
theorem d34_79 : decode bc34 79 = .ok (.aload 7, 2) := by decide +kernel
theorem d34_81 : decode bc34 81 = .ok (.ifnull 12, 3) := by decide +kernel
theorem d34_93 : decode bc34 93 = .ok (.aload_n 0, 1) := by decide +kernel
theorem d34_94 : decode bc34 94 = .ok (.getfield 40, 3) := by decide +kernel
theorem d34_97 : decode bc34 97 = .ok (.ifCond .ne 40, 3) := by decide +kernel
theorem d34_100 : decode bc34 100 = .ok (.aload_n 1, 1) := by decide +kernel
theorem d34_101 : decode bc34 101 = .ok (.aload 6, 2) := by decide +kernel
theorem d34_103 : decode bc34 103 = .ok (.iload 8, 2) := by decide +kernel
theorem d34_105 : decode bc34 105 = .ok (.iaload, 1) := by decide +kernel
theorem d34_106 : decode bc34 106 = .ok (.dup2, 1) := by decide +kernel
theorem d34_107 : decode bc34 107 = .ok (.iaload, 1) := by decide +kernel
theorem d34_108 : decode bc34 108 = .ok (.dup_x2, 1) := by decide +kernel
theorem d34_109 : decode bc34 109 = .ok (.iconst 1, 1) := by decide +kernel
theorem d34_110 : decode bc34 110 = .ok (.iadd, 1) := by decide +kernel
theorem d34_111 : decode bc34 111 = .ok (.iastore, 1) := by decide +kernel
theorem d34_112 : decode bc34 112 = .ok (.istore 11, 2) := by decide +kernel
theorem d34_114 : decode bc34 114 = .ok (.aload_n 2, 1) := by decide +kernel
theorem d34_115 : decode bc34 115 = .ok (.iload 11, 2) := by decide +kernel
theorem d34_117 : decode bc34 117 = .ok (.aload 5, 2) := by decide +kernel
theorem d34_119 : decode bc34 119 = .ok (.iload 8, 2) := by decide +kernel
theorem d34_121 : decode bc34 121 = .ok (.iaload, 1) := by decide +kernel
theorem d34_122 : decode bc34 122 = .ok (.iastore, 1) := by decide +kernel
theorem d34_123 : decode bc34 123 = .ok (.aload 7, 2) := by decide +kernel
theorem d34_125 : decode bc34 125 = .ok (.ifnull 12, 3) := by decide +kernel
theorem d34_137 : decode bc34 137 = .ok (.iinc 8 1, 3) := by decide +kernel
theorem d34_140 : decode bc34 140 = .ok (.goto (-91), 3) := by decide +kernel
theorem d34_143 : decode bc34 143 = .ok (.return_, 1) := by decide +kernel
theorem own_ef_own_rm34 (m : MethodId) (r0 : Addr) (r1 : Addr) (r2 : Addr) : entryFrame m #[(.ref r0), (.ref r1), (.ref r2), .null, (.int 0)] 12 = mkF m 0 #[rv r0, rv r1, rv r2, .val .null, iv 0, .unset, .unset, .unset, .unset, .unset, .unset, .unset] [] := by first | (simp [entryFrame, mkF, argsToLocals, Value.category]; done) | rfl
def own_Q_own_rm34 (Z : State) (r1 r2 : Addr) (EE GG : List Int32) (h0 : Heap) (n0 : Nat) (v : Option Value) (h : Heap) : Prop := v = none ∧ Keep h0 h [r1, r2] ∧ own_A Z h r1 .int (EE.map Value.int) ∧ own_A Z h r2 .int (GG.map Value.int)
set_option maxRecDepth 65536 in
set_option maxHeartbeats 40000000 in
theorem own_rm34 (l : Launch) (Z : State) (a0 : Array Value) (hw : ∀ d ∈ tables_1, d.before a0 Z = true) (ws : List Jvm.Cond) (r0 : Addr) (r1 : Addr) (r2 : Addr) (sa ta bs bt : Addr) (S T ss tt : List Int32) (kk : Int32) (nn : Nat) (es0 tg0 EE GG : List Int32) (h0 : Heap) (n0 : Nat) (Z0 : n0 ≤ h0.size) (Eb : Exa Z h0 r0 "kombos/graph/Graph$Builder") (Fb_sources : Fld Z h0 r0 "kombos/graph/Graph$Builder" "sources" "[[I" (.ref sa)) (Fb_targets : Fld Z h0 r0 "kombos/graph/Graph$Builder" "targets" "[[I" (.ref ta)) (Fb_directed : Fld Z h0 r0 "kombos/graph/Graph$Builder" "directed" "Z" (.int 0)) (Fb_edgeCount : Fld Z h0 r0 "kombos/graph/Graph$Builder" "edgeCount" "I" (.int kk)) (Fb_weights : Fld Z h0 r0 "kombos/graph/Graph$Builder" "weights" "[[J" .null) (As : own_A Z h0 sa (.array .int) ((List.replicate 16 .null).set 0 (.ref bs))) (At_ : own_A Z h0 ta (.array .int) ((List.replicate 16 .null).set 0 (.ref bt))) (Ab : own_A Z h0 bs .int (S.map Value.int)) (Ac : own_A Z h0 bt .int (T.map Value.int)) (lS : S.length = 8192) (lT : T.length = 8192) (hS : ∀ i, i < nn → own_g S i = own_g ss i) (hT : ∀ i, i < nn → own_g T i = own_g tt i) (hkk : kk.toInt = (nn : Int)) (hn3 : nn ≤ 3) (A1_ : own_A Z h0 r1 .int (es0.map Value.int)) (A2_ : own_A Z h0 r2 .int (tg0.map Value.int)) (hR0 : own_plc ss tt nn 0 es0 tg0 = some (EE, GG)) (g1 : n0 ≤ r1) (g2 : n0 ≤ r2) (m12 : r1 ≠ r2) (mr0r1 : r0 ≠ r1) (mr0r2 : r0 ≠ r2) (mbsr1 : bs ≠ r1) (mbsr2 : bs ≠ r2) (mbtr1 : bt ≠ r1) (mbtr2 : bt ≠ r2) (hk3 : kk.toInt ≤ 3) :
    own_Con l Z (⟨"kombos/graph/Graph$Builder", "place", "([I[I[JI)V"⟩ : MethodName) prog_45_method_21_code 12 none ws ({ frames := 2, cells := 0, slots := 0, locals := 26 } : Room) #[(.ref r0), (.ref r1), (.ref r2), .null, (.int 0)] h0 n0 (own_Q_own_rm34 Z r1 r2 EE GG h0 n0) := by
  refine own_body (plainFor_of_name own_pn1) ?_
  intro p e s m below meth c T0 hx hZ hby hml hown hnm hret hlk Y0
  replace hown : s.vm.findClass "kombos/graph/Graph$Builder" = some m.cls := hown
  replace hnm : meth.name = "place" := hnm
  rw [own_ef_own_rm34 m r0 r1 r2]
  show own_Ends _ _ _ _ (T0.setTop (mkF m 0 #[rv r0, rv r1, rv r2, .val .null, iv 0, .unset, .unset, .unset, .unset, .unset, .unset, .unset] []))
  refine o_aloadN Y0 hx hby d34_0 rfl rfl ?_
  refine p_getF Y0 hx hZ hown (host := "") (Or.inl (own_w hw 16 rfl)) Via.refl Fb_sources hby rfl d34_1 (fun T1202 Y1203 => ?_)
  refine o_iload Y1203 hx hby d34_4 rfl ?_
  refine p_ldR Y1203 hx hZ As rfl (i := 0) (by decide) (by decide) (by simp) (v := (.ref bs)) rfl hby rfl d34_6 ?_
  refine o_astore Y1203 hx hby d34_7 rfl rfl (l' := #[rv r0, rv r1, rv r2, .val .null, iv 0, rv bs, .unset, .unset, .unset, .unset, .unset, .unset]) rfl ?_
  refine o_aloadN Y1203 hx hby d34_9 rfl rfl ?_
  refine p_getF Y1203 hx hZ hown (host := "") (Or.inl (own_w hw 18 rfl)) Via.refl Fb_targets hby rfl d34_10 (fun T1204 Y1205 => ?_)
  refine o_iload Y1205 hx hby d34_13 rfl ?_
  refine p_ldR Y1205 hx hZ At_ rfl (i := 0) (by decide) (by decide) (by simp) (v := (.ref bt)) rfl hby rfl d34_15 ?_
  refine o_astore Y1205 hx hby d34_16 rfl rfl (l' := #[rv r0, rv r1, rv r2, .val .null, iv 0, rv bs, rv bt, .unset, .unset, .unset, .unset, .unset]) rfl ?_
  refine o_aloadN Y1205 hx hby d34_18 rfl rfl ?_
  refine p_getF Y1205 hx hZ hown (host := "") (Or.inl (own_w hw 100 rfl)) Via.refl Fb_weights hby rfl d34_19 (fun T1206 Y1207 => ?_)
  refine o_ifnonnullNo Y1207 hx hby d34_22 rfl ?_
  refine o_aconstNull Y1207 hx hby d34_25  ?_
  refine o_goto Y1207 hx hby (pc' := 36) d34_26 (by decide) (by decide) ?_
  refine o_astore Y1207 hx hby d34_36 rfl rfl (l' := #[rv r0, rv r1, rv r2, .val .null, iv 0, rv bs, rv bt, .val .null, .unset, .unset, .unset, .unset]) rfl ?_
  refine o_iconst Y1207 hx hby d34_38 (x := 0) rfl ?_
  refine o_istore Y1207 hx hby d34_39 rfl (l' := #[rv r0, rv r1, rv r2, .val .null, iv 0, rv bs, rv bt, .val .null, iv 0, .unset, .unset, .unset]) rfl ?_
  refine o_aloadN Y1207 hx hby d34_41 rfl rfl ?_
  refine o_iload Y1207 hx hby d34_42 rfl ?_
  refine own_callP Y1207 hx hZ (y := (⟨"kombos/graph/Graph$Builder", "blockCount", "(I)I"⟩ : MethodName)) hown (own_w hw 269 rfl) (own_w hw 270 rfl) (own_w hw 1 rfl) (own_w hw 271 rfl) (own_w hw 2 rfl) (own_w hw 272 rfl) (by decide) (a := r0) Eb (argsL := [(.int 0)]) (rest := []) (own_rm33 l Z a0 hw [] r0 kk h0 n0  Eb Fb_edgeCount hk3) (W := 0) (by decide) (by decide) (by decide) (by decide) rfl (by rw [hml]; rfl) (lenOf own_pd6 rfl) rfl (by show 2 * 0 + _ ≤ _; exact Nat.le_of_eq rfl) (hb hby d34_44) (fun T1208 h1210 v1211 Y1209 q1212 => ?_)
  obtain ⟨rfl, rfl⟩ := q1212
  show own_Ends _ _ _ _ (T1208.setTop (mkF m 47 #[rv r0, rv r1, rv r2, .val .null, iv 0, rv bs, rv bt, .val .null, iv 0, .unset, .unset, .unset] [(.int kk)]))
  refine o_istore Y1209 hx hby d34_47 rfl (l' := #[rv r0, rv r1, rv r2, .val .null, iv 0, rv bs, rv bt, .val .null, iv 0, iv kk, .unset, .unset]) rfl ?_
  show own_Ends _ _ _ _ (T1208.setTop (mkF m 49 #[rv r0, rv r1, rv r2, .val .null, iv 0, rv bs, rv bt, .val .null, iv 0, iv kk, .unset, .unset] []))
  have hL1213 : ∀ (k : Nat) (T1214 : State) (h1216 : Heap) (i : Nat) (j : Int32) (es tg : List Int32) (s10 s11 : Slot) (Y1215 : own_S p l e ({ frames := 2, cells := 0, slots := 0, locals := 26 } : Room) s m #[(.ref r0), (.ref r1), (.ref r2), .null, (.int 0)] below meth c n0 T1214 h1216 0 0) (z1217 : n0 ≤ h1216.size) (f1218 : Exa Z h1216 r0 "kombos/graph/Graph$Builder") (f1219 : Fld Z h1216 r0 "kombos/graph/Graph$Builder" "directed" "Z" (.int 0)) (f1220 : own_A Z h1216 bs .int (S.map Value.int)) (f1221 : own_A Z h1216 bt .int (T.map Value.int)) (f1222 : own_A Z h1216 r1 .int (es.map Value.int)) (f1223 : own_A Z h1216 r2 .int (tg.map Value.int)) (KL : Keep h0 h1216 [r1, r2]) (hj : j.toInt = (i : Int)) (hik : i + k = nn) (hR : own_plc ss tt k i es tg = some (EE, GG)) (hs10 : One s10) (hs11 : One s11), own_Ends p.tables e below (own_P s n0 (own_Q_own_rm34 Z r1 r2 EE GG h0 n0) ({ frames := 2, cells := 0, slots := 0, locals := 26 } : Room).cells ({ frames := 2, cells := 0, slots := 0, locals := 26 } : Room).slots) (T1214.setTop (mkF m 49 #[rv r0, rv r1, rv r2, .val .null, iv 0, rv bs, rv bt, .val .null, iv j, iv kk, s10, s11] [])) := by
   intro k
   induction k using Nat.strongRecOn with
   | _ k ih =>
    intro T1214 h1216 i j es tg s10 s11 Y1215 z1217 f1218 f1219 f1220 f1221 f1222 f1223 KL hj hik hR hs10 hs11
    obtain ⟨hj0, hj1⟩ := own_nat hj
    refine o_iload Y1215 hx hby d34_49 rfl ?_
    refine o_iload Y1215 hx hby d34_51 rfl ?_
    by_cases c53_1224 : j < kk
    ·
     refine o_icmpNo Y1215 hx hby d34_53 rfl (XT.ii_ge_f c53_1224) ?_
     show own_Ends _ _ _ _ (T1214.setTop (mkF m 56 #[rv r0, rv r1, rv r2, .val .null, iv 0, rv bs, rv bt, .val .null, iv j, iv kk, s10, s11] []))
     have hlt : i < nn := by have := c53_1224; rw [own_lt, hj, hkk] at this; omega
     obtain ⟨k', rfl⟩ : ∃ k', k = k' + 1 := ⟨k - 1, by omega⟩
     obtain ⟨o, q_, e1, e2, t1, t2, ho, he1, hg1, hq, he2, hg2, ok1, ok2, ok3, ok4, hR2⟩ := own_plc_inv hR
     refine o_aloadN Y1215 hx hby d34_56 rfl rfl ?_
     refine o_aload Y1215 hx hby d34_57 rfl rfl ?_
     refine o_iload Y1215 hx hby d34_59 rfl ?_
     refine p_ldI Y1215 hx hZ f1220 (i := i) hj0 hj1 (own_mlen (by rw [lS]; omega)) (v := (.int (own_g ss i))) (by rw [← hS i hlt]; exact own_mget (own_mlen (by rw [lS]; omega))) hby rfl d34_61 ?_
     refine o_dup2 Y1215 hx hby d34_62 rfl rfl rfl ?_
     refine p_ldI Y1215 hx hZ f1222 (i := ((own_g ss i)).toNatClampNeg) (own_okn ok1).1 rfl (own_mlen (own_okn ok1).2) (v := (.int o)) (by rw [ho]; exact own_mget (own_mlen (own_okn ok1).2)) hby rfl d34_63 ?_
     refine own_st (fun t_ => own_dupX2 (own_here Y1215) hx rfl (hb hby d34_64) rfl rfl rfl rfl) ?_
     show own_Ends _ _ _ _ (T1214.setTop (mkF m 65 #[rv r0, rv r1, rv r2, .val .null, iv 0, rv bs, rv bt, .val .null, iv j, iv kk, s10, s11] [(.int o), (.int (own_g ss i)), (.ref r1), (.int o)]))
     refine o_iconst Y1215 hx hby d34_65 (x := 1) rfl ?_
     refine o_iadd Y1215 hx hby d34_66 rfl rfl ?_
     refine p_stI Y1215 hx hZ f1222 g1 (i := ((own_g ss i)).toNatClampNeg) (own_okn ok1).1 rfl (own_mlen (own_okn ok1).2) hby rfl d34_67 (fun T1225 h1227 Y1226 W1228 A1229 => ?_)
     show own_Ends _ _ _ _ (T1225.setTop (mkF m 68 #[rv r0, rv r1, rv r2, .val .null, iv 0, rv bs, rv bt, .val .null, iv j, iv kk, s10, s11] [(.int o)]))
     have A1230 : own_A Z h1227 r1 .int (e1.map Value.int) := own_putA he1 A1229
     refine own_st (fun t_ => XS.istoreS (own_here Y1226) hx rfl (hb hby d34_68) rfl rfl hs10) ?_
     show own_Ends _ _ _ _ (T1225.setTop (mkF m 70 #[rv r0, rv r1, rv r2, .val .null, iv 0, rv bs, rv bt, .val .null, iv j, iv kk, iv o, s11] []))
     refine o_aloadN Y1226 hx hby d34_70 rfl rfl ?_
     refine o_iload Y1226 hx hby d34_71 rfl ?_
     refine o_aload Y1226 hx hby d34_73 rfl rfl ?_
     refine o_iload Y1226 hx hby d34_75 rfl ?_
     have f1231 := f1221.other W1228 mbtr1
     refine p_ldI Y1226 hx hZ f1231 (i := i) hj0 hj1 (own_mlen (by rw [lT]; omega)) (v := (.int (own_g tt i))) (by rw [← hT i hlt]; exact own_mget (own_mlen (by rw [lT]; omega))) hby rfl d34_77 ?_
     have f1232 := f1223.other W1228 (Ne.symm m12)
     refine p_stI Y1226 hx hZ f1232 g2 (i := (o).toNatClampNeg) (own_okn ok2).1 rfl (own_mlen (own_okn ok2).2) hby rfl d34_78 (fun T1233 h1235 Y1234 W1236 A1237 => ?_)
     show own_Ends _ _ _ _ (T1233.setTop (mkF m 79 #[rv r0, rv r1, rv r2, .val .null, iv 0, rv bs, rv bt, .val .null, iv j, iv kk, iv o, s11] []))
     have A1238 : own_A Z h1235 r2 .int (t1.map Value.int) := own_putA hg1 A1237
     refine o_aload Y1234 hx hby d34_79 rfl rfl ?_
     refine o_ifnullYes Y1234 hx hby (pc' := 93) d34_81 rfl (by decide) (by decide) ?_
     refine o_aloadN Y1234 hx hby d34_93 rfl rfl ?_
     have f1239 := f1219.other W1228 (Or.inl mr0r1)
     have f1240 := f1239.other W1236 (Or.inl mr0r2)
     refine p_getF Y1234 hx hZ hown (host := "") (Or.inl (own_w hw 30 rfl)) Via.refl f1240 hby rfl d34_94 (fun T1241 Y1242 => ?_)
     refine o_ifNo Y1242 hx hby d34_97 rfl (XT.i0_ne_f (by decide)) ?_
     refine o_aloadN Y1242 hx hby d34_100 rfl rfl ?_
     refine o_aload Y1242 hx hby d34_101 rfl rfl ?_
     refine o_iload Y1242 hx hby d34_103 rfl ?_
     have f1243 := f1231.other W1236 mbtr2
     refine p_ldI Y1242 hx hZ f1243 (i := i) hj0 hj1 (own_mlen (by rw [lT]; omega)) (v := (.int (own_g tt i))) (by rw [← hT i hlt]; exact own_mget (own_mlen (by rw [lT]; omega))) hby rfl d34_105 ?_
     refine o_dup2 Y1242 hx hby d34_106 rfl rfl rfl ?_
     have f1244 := A1230.other W1236 m12
     refine p_ldI Y1242 hx hZ f1244 (i := ((own_g tt i)).toNatClampNeg) (own_okn ok3).1 rfl (own_mlen (own_okn ok3).2) (v := (.int q_)) (by rw [hq]; exact own_mget (own_mlen (own_okn ok3).2)) hby rfl d34_107 ?_
     refine own_st (fun t_ => own_dupX2 (own_here Y1242) hx rfl (hb hby d34_108) rfl rfl rfl rfl) ?_
     show own_Ends _ _ _ _ (T1241.setTop (mkF m 109 #[rv r0, rv r1, rv r2, .val .null, iv 0, rv bs, rv bt, .val .null, iv j, iv kk, iv o, s11] [(.int q_), (.int (own_g tt i)), (.ref r1), (.int q_)]))
     refine o_iconst Y1242 hx hby d34_109 (x := 1) rfl ?_
     refine o_iadd Y1242 hx hby d34_110 rfl rfl ?_
     refine p_stI Y1242 hx hZ f1244 g1 (i := ((own_g tt i)).toNatClampNeg) (own_okn ok3).1 rfl (own_mlen (own_okn ok3).2) hby rfl d34_111 (fun T1245 h1247 Y1246 W1248 A1249 => ?_)
     show own_Ends _ _ _ _ (T1245.setTop (mkF m 112 #[rv r0, rv r1, rv r2, .val .null, iv 0, rv bs, rv bt, .val .null, iv j, iv kk, iv o, s11] [(.int q_)]))
     have A1250 : own_A Z h1247 r1 .int (e2.map Value.int) := own_putA he2 A1249
     refine own_st (fun t_ => XS.istoreS (own_here Y1246) hx rfl (hb hby d34_112) rfl rfl hs11) ?_
     show own_Ends _ _ _ _ (T1245.setTop (mkF m 114 #[rv r0, rv r1, rv r2, .val .null, iv 0, rv bs, rv bt, .val .null, iv j, iv kk, iv o, iv q_] []))
     refine o_aloadN Y1246 hx hby d34_114 rfl rfl ?_
     refine o_iload Y1246 hx hby d34_115 rfl ?_
     refine o_aload Y1246 hx hby d34_117 rfl rfl ?_
     refine o_iload Y1246 hx hby d34_119 rfl ?_
     have f1251 := f1220.other W1228 mbsr1
     have f1252 := f1251.other W1236 mbsr2
     have f1253 := f1252.other W1248 mbsr1
     refine p_ldI Y1246 hx hZ f1253 (i := i) hj0 hj1 (own_mlen (by rw [lS]; omega)) (v := (.int (own_g ss i))) (by rw [← hS i hlt]; exact own_mget (own_mlen (by rw [lS]; omega))) hby rfl d34_121 ?_
     have f1254 := A1238.other W1248 (Ne.symm m12)
     refine p_stI Y1246 hx hZ f1254 g2 (i := (q_).toNatClampNeg) (own_okn ok4).1 rfl (own_mlen (own_okn ok4).2) hby rfl d34_122 (fun T1255 h1257 Y1256 W1258 A1259 => ?_)
     show own_Ends _ _ _ _ (T1255.setTop (mkF m 123 #[rv r0, rv r1, rv r2, .val .null, iv 0, rv bs, rv bt, .val .null, iv j, iv kk, iv o, iv q_] []))
     have A1260 : own_A Z h1257 r2 .int (t2.map Value.int) := own_putA hg2 A1259
     refine o_aload Y1256 hx hby d34_123 rfl rfl ?_
     refine o_ifnullYes Y1256 hx hby (pc' := 137) d34_125 rfl (by decide) (by decide) ?_
     refine o_iinc Y1256 hx hby d34_137 rfl (l' := #[rv r0, rv r1, rv r2, .val .null, iv 0, rv bs, rv bt, .val .null, iv (j + (1 : Int32)), iv kk, iv o, iv q_]) rfl ?_
     refine o_goto Y1256 hx hby (pc' := 49) d34_140 (by decide) (by decide) ?_
     have z1261 : n0 ≤ h1227.size := Nat.le_trans z1217 (Nat.le_of_eq W1228.size.symm)
     have z1262 : n0 ≤ h1235.size := Nat.le_trans z1261 (Nat.le_of_eq W1236.size.symm)
     have z1263 : n0 ≤ h1247.size := Nat.le_trans z1262 (Nat.le_of_eq W1248.size.symm)
     have z1264 : n0 ≤ h1257.size := Nat.le_trans z1263 (Nat.le_of_eq W1258.size.symm)
     have f1265 := f1218.wr W1228
     have f1266 := f1265.wr W1236
     have f1267 := f1266.wr W1248
     have f1268 := f1267.wr W1258
     have f1269 := f1240.other W1248 (Or.inl mr0r1)
     have f1270 := f1269.other W1258 (Or.inl mr0r2)
     have f1271 := f1253.other W1258 mbsr2
     have f1272 := f1243.other W1248 mbtr1
     have f1273 := f1272.other W1258 mbtr2
     have f1274 := A1250.other W1258 m12
     have K1275 : Keep h0 h1216 [r1, r2] := KL
     have K1276 : Keep h0 h1227 [r1, r2] := K1275.wr W1228 (Or.inl (List.mem_of_getElem? (i := 0) rfl))
     have K1277 : Keep h0 h1235 [r1, r2] := K1276.wr W1236 (Or.inl (List.mem_of_getElem? (i := 1) rfl))
     have K1278 : Keep h0 h1247 [r1, r2] := K1277.wr W1248 (Or.inl (List.mem_of_getElem? (i := 0) rfl))
     have K1279 : Keep h0 h1257 [r1, r2] := K1278.wr W1258 (Or.inl (List.mem_of_getElem? (i := 1) rfl))
     exact ih k' (by omega) T1255 h1257 (i + 1) ((j + (1 : Int32))) (e2) (t2) (iv o) (iv q_) Y1256 z1264 f1268 f1270 f1271 f1273 f1274 A1260 K1279 (own_inc hj (by omega)) (by omega) hR2 (One.val rfl) (One.val rfl)
    ·
     refine o_icmpYes Y1215 hx hby (pc' := 143) d34_53 rfl (XT.ii_ge_t c53_1224) (by decide) (by decide) ?_
     have hk0 : k = 0 := by have := c53_1224; rw [own_lt, hj, hkk] at this; omega
     subst hk0
     have hes : es = EE ∧ tg = GG := by simpa [own_plc] using hR
     obtain ⟨rfl, rfl⟩ := hes
     have K1280 : Keep h0 h1216 [r1, r2] := KL
     refine own_retV Y1215 hx hlk hret (hb hby d34_143) (by decide) (by decide) ?_
     exact ⟨rfl, K1280, f1222, f1223⟩
  exact hL1213 nn T1208 h0 (0) (0) (es0) (tg0) (.unset) (.unset) Y1209 Z0 Eb Fb_directed Ab Ac A1_ A2_ (Keep.refl h0 [r1, r2]) rfl (by omega) hR0 One.u One.u
def bc13 : ByteArray := prog_47_method_2_code
theorem d13_0 : decode bc13 0 = .ok (.aload_n 0, 1) := by decide +kernel
theorem d13_1 : decode bc13 1 = .ok (.getfield 13, 3) := by decide +kernel
theorem d13_4 : decode bc13 4 = .ok (.ireturn, 1) := by decide +kernel
theorem own_ef_own_rm13 (m : MethodId) (r0 : Addr) : entryFrame m #[(.ref r0)] 1 = mkF m 0 #[rv r0] [] := by first | (simp [entryFrame, mkF, argsToLocals, Value.category]; done) | rfl
def own_Q_own_rm13 (Z : State)  (h0 : Heap) (n0 : Nat) (v : Option Value) (h : Heap) : Prop := v = some (.int 3) ∧ h0 = h
set_option maxRecDepth 65536 in
set_option maxHeartbeats 40000000 in
theorem own_rm13 (l : Launch) (Z : State) (a0 : Array Value) (hw : ∀ d ∈ tables_1, d.before a0 Z = true) (ws : List Jvm.Cond) (r0 : Addr)  (h0 : Heap) (n0 : Nat)  (Ex : Exa Z h0 r0 "kombos/graph/IdIndex") (Fx_size : Fld Z h0 r0 "kombos/graph/IdIndex" "size" "I" (.int 3)) :
    own_Con l Z (⟨"kombos/graph/IdIndex", "size", "()I"⟩ : MethodName) prog_47_method_2_code 1 (some .int) ws ({ frames := 0, cells := 0, slots := 0, locals := 0 } : Room) #[(.ref r0)] h0 n0 (own_Q_own_rm13 Z  h0 n0) := by
  refine own_body (plainFor_of_name own_pn0) ?_
  intro p e s m below meth c T0 hx hZ hby hml hown hnm hret hlk Y0
  replace hown : s.vm.findClass "kombos/graph/IdIndex" = some m.cls := hown
  replace hnm : meth.name = "size" := hnm
  rw [own_ef_own_rm13 m r0]
  show own_Ends _ _ _ _ (T0.setTop (mkF m 0 #[rv r0] []))
  refine o_aloadN Y0 hx hby d13_0 rfl rfl ?_
  refine p_getF Y0 hx hZ hown (host := "") (Or.inl (own_w hw 74 rfl)) Via.refl Fx_size hby rfl d13_1 (fun T1281 Y1282 => ?_)
  refine own_retI Y1282 hx hlk hret (hb hby d13_4) (by decide) (by decide) ?_
  exact ⟨rfl, rfl⟩
def bc14 : ByteArray := prog_47_method_11_code
theorem d14_0 : decode bc14 0 = .ok (.aload_n 0, 1) := by decide +kernel
theorem d14_1 : decode bc14 1 = .ok (.getfield 16, 3) := by decide +kernel
theorem d14_4 : decode bc14 4 = .ok (.ifnull 18, 3) := by decide +kernel
theorem d14_22 : decode bc14 22 = .ok (.return_, 1) := by decide +kernel
theorem own_ef_own_rm14 (m : MethodId) (r0 : Addr) : entryFrame m #[(.ref r0)] 1 = mkF m 0 #[rv r0] [] := by first | (simp [entryFrame, mkF, argsToLocals, Value.category]; done) | rfl
def own_Q_own_rm14 (Z : State)  (h0 : Heap) (n0 : Nat) (v : Option Value) (h : Heap) : Prop := v = none ∧ h0 = h
set_option maxRecDepth 65536 in
set_option maxHeartbeats 40000000 in
theorem own_rm14 (l : Launch) (Z : State) (a0 : Array Value) (hw : ∀ d ∈ tables_1, d.before a0 Z = true) (ws : List Jvm.Cond) (r0 : Addr)  (h0 : Heap) (n0 : Nat)  (Ex : Exa Z h0 r0 "kombos/graph/IdIndex") (Fx_ids : Fld Z h0 r0 "kombos/graph/IdIndex" "ids" "[J" .null) :
    own_Con l Z (⟨"kombos/graph/IdIndex", "trimToSize", "()V"⟩ : MethodName) prog_47_method_11_code 1 none ws ({ frames := 0, cells := 0, slots := 0, locals := 0 } : Room) #[(.ref r0)] h0 n0 (own_Q_own_rm14 Z  h0 n0) := by
  refine own_body (plainFor_of_name own_pn0) ?_
  intro p e s m below meth c T0 hx hZ hby hml hown hnm hret hlk Y0
  replace hown : s.vm.findClass "kombos/graph/IdIndex" = some m.cls := hown
  replace hnm : meth.name = "trimToSize" := hnm
  rw [own_ef_own_rm14 m r0]
  show own_Ends _ _ _ _ (T0.setTop (mkF m 0 #[rv r0] []))
  refine o_aloadN Y0 hx hby d14_0 rfl rfl ?_
  refine p_getF Y0 hx hZ hown (host := "") (Or.inl (own_w hw 80 rfl)) Via.refl Fx_ids hby rfl d14_1 (fun T1283 Y1284 => ?_)
  refine o_ifnullYes Y1284 hx hby (pc' := 22) d14_4 rfl (by decide) (by decide) ?_
  refine own_retV Y1284 hx hlk hret (hb hby d14_22) (by decide) (by decide) ?_
  exact ⟨rfl, rfl⟩
theorem own_pn3 : plainName "kombos/graph/Graph" = true := by first | (simp [plainName, overriddenIn]; done) | decide +kernel
def bc15 : ByteArray := prog_44_method_1_code
theorem d15_0 : decode bc15 0 = .ok (.aload_n 0, 1) := by decide +kernel
theorem d15_1 : decode bc15 1 = .ok (.invokespecial 1, 3) := by decide +kernel
theorem d15_4 : decode bc15 4 = .ok (.aload_n 0, 1) := by decide +kernel
theorem d15_5 : decode bc15 5 = .ok (.aload_n 1, 1) := by decide +kernel
theorem d15_6 : decode bc15 6 = .ok (.getfield 7, 3) := by decide +kernel
theorem d15_9 : decode bc15 9 = .ok (.putfield 13, 3) := by decide +kernel
theorem d15_12 : decode bc15 12 = .ok (.aload_n 0, 1) := by decide +kernel
theorem d15_13 : decode bc15 13 = .ok (.aload_n 1, 1) := by decide +kernel
theorem d15_14 : decode bc15 14 = .ok (.getfield 16, 3) := by decide +kernel
theorem d15_17 : decode bc15 17 = .ok (.putfield 20, 3) := by decide +kernel
theorem d15_20 : decode bc15 20 = .ok (.aload_n 0, 1) := by decide +kernel
theorem d15_21 : decode bc15 21 = .ok (.aload_n 1, 1) := by decide +kernel
theorem d15_22 : decode bc15 22 = .ok (.getfield 21, 3) := by decide +kernel
theorem d15_25 : decode bc15 25 = .ok (.putfield 25, 3) := by decide +kernel
theorem d15_28 : decode bc15 28 = .ok (.aload_n 0, 1) := by decide +kernel
theorem d15_29 : decode bc15 29 = .ok (.aload_n 1, 1) := by decide +kernel
theorem d15_30 : decode bc15 30 = .ok (.getfield 26, 3) := by decide +kernel
theorem d15_33 : decode bc15 33 = .ok (.putfield 30, 3) := by decide +kernel
theorem d15_36 : decode bc15 36 = .ok (.aload_n 0, 1) := by decide +kernel
theorem d15_37 : decode bc15 37 = .ok (.aload_n 2, 1) := by decide +kernel
theorem d15_38 : decode bc15 38 = .ok (.putfield 31, 3) := by decide +kernel
theorem d15_41 : decode bc15 41 = .ok (.aload_n 0, 1) := by decide +kernel
theorem d15_42 : decode bc15 42 = .ok (.aload_n 3, 1) := by decide +kernel
theorem d15_43 : decode bc15 43 = .ok (.putfield 35, 3) := by decide +kernel
theorem d15_46 : decode bc15 46 = .ok (.aload_n 0, 1) := by decide +kernel
theorem d15_47 : decode bc15 47 = .ok (.aload 4, 2) := by decide +kernel
theorem d15_49 : decode bc15 49 = .ok (.putfield 38, 3) := by decide +kernel
theorem d15_52 : decode bc15 52 = .ok (.aload_n 0, 1) := by decide +kernel
theorem d15_53 : decode bc15 53 = .ok (.aload_n 1, 1) := by decide +kernel
theorem d15_54 : decode bc15 54 = .ok (.getfield 42, 3) := by decide +kernel
theorem d15_57 : decode bc15 57 = .ok (.putfield 45, 3) := by decide +kernel
theorem d15_60 : decode bc15 60 = .ok (.aload_n 0, 1) := by decide +kernel
theorem d15_61 : decode bc15 61 = .ok (.aload_n 1, 1) := by decide +kernel
theorem d15_62 : decode bc15 62 = .ok (.getfield 46, 3) := by decide +kernel
theorem d15_65 : decode bc15 65 = .ok (.putfield 50, 3) := by decide +kernel
theorem d15_68 : decode bc15 68 = .ok (.aload_n 0, 1) := by decide +kernel
theorem d15_69 : decode bc15 69 = .ok (.aload_n 1, 1) := by decide +kernel
theorem d15_70 : decode bc15 70 = .ok (.getfield 51, 3) := by decide +kernel
theorem d15_73 : decode bc15 73 = .ok (.putfield 54, 3) := by decide +kernel
theorem d15_76 : decode bc15 76 = .ok (.return_, 1) := by decide +kernel
theorem own_ef_own_rm15 (m : MethodId) (r0 : Addr) (r1 : Addr) (r2 : Addr) (r3 : Addr) : entryFrame m #[(.ref r0), (.ref r1), (.ref r2), (.ref r3), .null] 5 = mkF m 0 #[rv r0, rv r1, rv r2, rv r3, .val .null] [] := by first | (simp [entryFrame, mkF, argsToLocals, Value.category]; done) | rfl
def own_Q_own_rm15 (Z : State) (r0 r2 r3 ix : Addr) (h0 : Heap) (n0 : Nat) (v : Option Value) (h : Heap) : Prop := v = none ∧ Keep h0 h [r0] ∧ Exa Z h r0 "kombos/graph/Graph" ∧ Fld Z h r0 "kombos/graph/Graph" "index" "Lkombos/graph/IdIndex;" (.ref ix) ∧ Fld Z h r0 "kombos/graph/Graph" "directed" "Z" (.int 0) ∧ Fld Z h r0 "kombos/graph/Graph" "edgeStart" "[I" (.ref r2) ∧ Fld Z h r0 "kombos/graph/Graph" "edgeTarget" "[I" (.ref r3)
set_option maxRecDepth 65536 in
set_option maxHeartbeats 40000000 in
theorem own_rm15 (l : Launch) (Z : State) (a0 : Array Value) (hw : ∀ d ∈ tables_1, d.before a0 Z = true) (ws : List Jvm.Cond) (r0 : Addr) (r1 : Addr) (r2 : Addr) (r3 : Addr) (ix el : Addr) (kk : Int32) (h0 : Heap) (n0 : Nat)  (Eg : Exa Z h0 r0 "kombos/graph/Graph") (Fg_index : Fld Z h0 r0 "kombos/graph/Graph" "index" "Lkombos/graph/IdIndex;" .null) (Fg_keys : Fld Z h0 r0 "kombos/graph/Graph" "keys" "Lkombos/graph/KeyIndex;" .null) (Fg_directed : Fld Z h0 r0 "kombos/graph/Graph" "directed" "Z" (.int 0)) (Fg_edgeCount : Fld Z h0 r0 "kombos/graph/Graph" "edgeCount" "I" (.int 0)) (Fg_edgeStart : Fld Z h0 r0 "kombos/graph/Graph" "edgeStart" "[I" .null) (Fg_edgeTarget : Fld Z h0 r0 "kombos/graph/Graph" "edgeTarget" "[I" .null) (Fg_edgeWeight : Fld Z h0 r0 "kombos/graph/Graph" "edgeWeight" "[J" .null) (Fg_decimal : Fld Z h0 r0 "kombos/graph/Graph" "decimal" "Z" (.int 0)) (Fg_vertexColumns : Fld Z h0 r0 "kombos/graph/Graph" "vertexColumns" "Ljava/util/List;" .null) (Fg_edgeColumns : Fld Z h0 r0 "kombos/graph/Graph" "edgeColumns" "Ljava/util/List;" .null) (Eb : Exa Z h0 r1 "kombos/graph/Graph$Builder") (Fb_index : Fld Z h0 r1 "kombos/graph/Graph$Builder" "index" "Lkombos/graph/IdIndex;" (.ref ix)) (Fb_keys : Fld Z h0 r1 "kombos/graph/Graph$Builder" "keys" "Lkombos/graph/KeyIndex;" .null) (Fb_directed : Fld Z h0 r1 "kombos/graph/Graph$Builder" "directed" "Z" (.int 0)) (Fb_edgeCount : Fld Z h0 r1 "kombos/graph/Graph$Builder" "edgeCount" "I" (.int kk)) (Fb_decimal : Fld Z h0 r1 "kombos/graph/Graph$Builder" "decimal" "Z" (.int 0)) (Fb_vertexColumns : Fld Z h0 r1 "kombos/graph/Graph$Builder" "vertexColumns" "Ljava/util/List;" (.ref el)) (Fb_edgeColumns : Fld Z h0 r1 "kombos/graph/Graph$Builder" "edgeColumns" "Ljava/util/List;" (.ref el)) (g : n0 ≤ r0) (m1 : r1 ≠ r0) :
    own_Con l Z (⟨"kombos/graph/Graph", "<init>", "(Lkombos/graph/Graph$Builder;[I[I[J)V"⟩ : MethodName) prog_44_method_1_code 5 none ws ({ frames := 1, cells := 0, slots := 0, locals := 12 } : Room) #[(.ref r0), (.ref r1), (.ref r2), (.ref r3), .null] h0 n0 (own_Q_own_rm15 Z r0 r2 r3 ix h0 n0) := by
  refine own_body (plainFor_of_name own_pn3) ?_
  intro p e s m below meth c T0 hx hZ hby hml hown hnm hret hlk Y0
  replace hown : s.vm.findClass "kombos/graph/Graph" = some m.cls := hown
  replace hnm : meth.name = "<init>" := hnm
  rw [own_ef_own_rm15 m r0 r1 r2 r3]
  show own_Ends _ _ _ _ (T0.setTop (mkF m 0 #[rv r0, rv r1, rv r2, rv r3, .val .null] []))
  refine o_aloadN Y0 hx hby d15_0 rfl rfl ?_
  refine own_initO Y0 hx hZ hown (own_w hw 117 rfl) (own_w hw 12 rfl) (own_w hw 13 rfl) rfl (by rw [hml]; rfl) rfl (hb hby d15_1) (by decide) (W := 0) (by show 2 * 0 + _ ≤ _; exact Nat.le_of_eq rfl) (by decide) (fun T1285 Y1286 => ?_)
  show own_Ends _ _ _ _ (T1285.setTop (mkF m 4 #[rv r0, rv r1, rv r2, rv r3, .val .null] []))
  refine o_aloadN Y1286 hx hby d15_4 rfl rfl ?_
  refine o_aloadN Y1286 hx hby d15_5 rfl rfl ?_
  refine p_getFR Y1286 hx hZ hown (own_w hw 118 rfl) Via.refl Fb_index hby rfl d15_6 (fun T1287 Y1288 => ?_)
  refine p_putF Y1288 hx hZ hown (host := "") (Or.inl (own_w hw 119 rfl)) Via.refl Fg_index Eg (Or.inr ⟨(own_w hw 120 rfl), rfl, hnm⟩) (own_w hw 112 rfl) g (ty := (.object "kombos/graph/IdIndex")) (by decide) rfl rfl hby rfl d15_9 (fun T1289 h1291 Y1290 W1292 F1293 => ?_)
  refine o_aloadN Y1290 hx hby d15_12 rfl rfl ?_
  refine o_aloadN Y1290 hx hby d15_13 rfl rfl ?_
  have f1294 := Fb_keys.other W1292 (Or.inl m1)
  refine p_getFR Y1290 hx hZ hown (own_w hw 121 rfl) Via.refl f1294 hby rfl d15_14 (fun T1295 Y1296 => ?_)
  have f1297 := Eg.wr W1292
  have f1298 := own_sn Fg_keys W1292 (own_wf hw 123 rfl) (own_wf hw 120 rfl) (by decide) own_f8 own_f7
  refine p_putF Y1296 hx hZ hown (host := "") (Or.inl (own_w hw 122 rfl)) Via.refl f1298 f1297 (Or.inr ⟨(own_w hw 123 rfl), rfl, hnm⟩) (own_w hw 112 rfl) g (ty := (.object "kombos/graph/KeyIndex")) (by decide) rfl rfl hby rfl d15_17 (fun T1299 h1301 Y1300 W1302 F1303 => ?_)
  refine o_aloadN Y1300 hx hby d15_20 rfl rfl ?_
  refine o_aloadN Y1300 hx hby d15_21 rfl rfl ?_
  have f1304 := Fb_directed.other W1292 (Or.inl m1)
  have f1305 := f1304.other W1302 (Or.inl m1)
  refine p_getFR Y1300 hx hZ hown (own_w hw 124 rfl) Via.refl f1305 hby rfl d15_22 (fun T1306 Y1307 => ?_)
  have f1308 := f1297.wr W1302
  have f1309 := own_sn Fg_directed W1292 (own_wf hw 126 rfl) (own_wf hw 120 rfl) (by decide) own_f6 own_f7
  have f1310 := own_sn f1309 W1302 (own_wf hw 126 rfl) (own_wf hw 123 rfl) (by decide) own_f6 own_f8
  refine p_putFN Y1307 hx hZ hown (own_w hw 125 rfl) Via.refl f1310 f1308 (Or.inr ⟨(own_w hw 126 rfl), rfl, hnm⟩) (own_w hw 112 rfl) g (ty := .boolean) (v' := (.int 0)) (by decide) rfl (by decide) hby rfl d15_25 (fun T1311 h1313 Y1312 W1314 F1315 => ?_)
  refine o_aloadN Y1312 hx hby d15_28 rfl rfl ?_
  refine o_aloadN Y1312 hx hby d15_29 rfl rfl ?_
  have f1316 := Fb_edgeCount.other W1292 (Or.inl m1)
  have f1317 := f1316.other W1302 (Or.inl m1)
  have f1318 := f1317.other W1314 (Or.inl m1)
  refine p_getFR Y1312 hx hZ hown (own_w hw 127 rfl) Via.refl f1318 hby rfl d15_30 (fun T1319 Y1320 => ?_)
  have f1321 := f1308.wr W1314
  have f1322 := own_sn Fg_edgeCount W1292 (own_wf hw 129 rfl) (own_wf hw 120 rfl) (by decide) own_f1 own_f7
  have f1323 := own_sn f1322 W1302 (own_wf hw 129 rfl) (own_wf hw 123 rfl) (by decide) own_f1 own_f8
  have f1324 := own_sn f1323 W1314 (own_wf hw 129 rfl) (own_wf hw 126 rfl) (by decide) own_f1 own_f6
  refine p_putF Y1320 hx hZ hown (host := "") (Or.inl (own_w hw 128 rfl)) Via.refl f1324 f1321 (Or.inr ⟨(own_w hw 129 rfl), rfl, hnm⟩) (own_w hw 112 rfl) g (ty := .int) (by decide) rfl rfl hby rfl d15_33 (fun T1325 h1327 Y1326 W1328 F1329 => ?_)
  refine o_aloadN Y1326 hx hby d15_36 rfl rfl ?_
  refine o_aloadN Y1326 hx hby d15_37 rfl rfl ?_
  have f1330 := f1321.wr W1328
  have f1331 := own_sn Fg_edgeStart W1292 (own_wf hw 131 rfl) (own_wf hw 120 rfl) (by decide) own_f3 own_f7
  have f1332 := own_sn f1331 W1302 (own_wf hw 131 rfl) (own_wf hw 123 rfl) (by decide) own_f3 own_f8
  have f1333 := own_sn f1332 W1314 (own_wf hw 131 rfl) (own_wf hw 126 rfl) (by decide) own_f3 own_f6
  have f1334 := own_sn f1333 W1328 (own_wf hw 131 rfl) (own_wf hw 129 rfl) (by decide) own_f3 own_f1
  refine p_putF Y1326 hx hZ hown (host := "") (Or.inl (own_w hw 130 rfl)) Via.refl f1334 f1330 (Or.inr ⟨(own_w hw 131 rfl), rfl, hnm⟩) (own_w hw 112 rfl) g (ty := (.array .int)) (by decide) rfl rfl hby rfl d15_38 (fun T1335 h1337 Y1336 W1338 F1339 => ?_)
  refine o_aloadN Y1336 hx hby d15_41 rfl rfl ?_
  refine o_aloadN Y1336 hx hby d15_42 rfl rfl ?_
  have f1340 := f1330.wr W1338
  have f1341 := own_sn Fg_edgeTarget W1292 (own_wf hw 133 rfl) (own_wf hw 120 rfl) (by decide) own_f3 own_f7
  have f1342 := own_sn f1341 W1302 (own_wf hw 133 rfl) (own_wf hw 123 rfl) (by decide) own_f3 own_f8
  have f1343 := own_sn f1342 W1314 (own_wf hw 133 rfl) (own_wf hw 126 rfl) (by decide) own_f3 own_f6
  have f1344 := own_sn f1343 W1328 (own_wf hw 133 rfl) (own_wf hw 129 rfl) (by decide) own_f3 own_f1
  have f1345 := own_sn f1344 W1338 (own_wf hw 133 rfl) (own_wf hw 131 rfl) (by decide) own_f3 own_f3
  refine p_putF Y1336 hx hZ hown (host := "") (Or.inl (own_w hw 132 rfl)) Via.refl f1345 f1340 (Or.inr ⟨(own_w hw 133 rfl), rfl, hnm⟩) (own_w hw 112 rfl) g (ty := (.array .int)) (by decide) rfl rfl hby rfl d15_43 (fun T1346 h1348 Y1347 W1349 F1350 => ?_)
  refine o_aloadN Y1347 hx hby d15_46 rfl rfl ?_
  refine o_aload Y1347 hx hby d15_47 rfl rfl ?_
  have f1351 := f1340.wr W1349
  have f1352 := own_sn Fg_edgeWeight W1292 (own_wf hw 135 rfl) (own_wf hw 120 rfl) (by decide) own_f0 own_f7
  have f1353 := own_sn f1352 W1302 (own_wf hw 135 rfl) (own_wf hw 123 rfl) (by decide) own_f0 own_f8
  have f1354 := own_sn f1353 W1314 (own_wf hw 135 rfl) (own_wf hw 126 rfl) (by decide) own_f0 own_f6
  have f1355 := own_sn f1354 W1328 (own_wf hw 135 rfl) (own_wf hw 129 rfl) (by decide) own_f0 own_f1
  have f1356 := own_sn f1355 W1338 (own_wf hw 135 rfl) (own_wf hw 131 rfl) (by decide) own_f0 own_f3
  have f1357 := own_sn f1356 W1349 (own_wf hw 135 rfl) (own_wf hw 133 rfl) (by decide) own_f0 own_f3
  refine p_putF Y1347 hx hZ hown (host := "") (Or.inl (own_w hw 134 rfl)) Via.refl f1357 f1351 (Or.inr ⟨(own_w hw 135 rfl), rfl, hnm⟩) (own_w hw 112 rfl) g (ty := (.array .long)) (by decide) rfl rfl hby rfl d15_49 (fun T1358 h1360 Y1359 W1361 F1362 => ?_)
  refine o_aloadN Y1359 hx hby d15_52 rfl rfl ?_
  refine o_aloadN Y1359 hx hby d15_53 rfl rfl ?_
  have f1363 := Fb_decimal.other W1292 (Or.inl m1)
  have f1364 := f1363.other W1302 (Or.inl m1)
  have f1365 := f1364.other W1314 (Or.inl m1)
  have f1366 := f1365.other W1328 (Or.inl m1)
  have f1367 := f1366.other W1338 (Or.inl m1)
  have f1368 := f1367.other W1349 (Or.inl m1)
  have f1369 := f1368.other W1361 (Or.inl m1)
  refine p_getFR Y1359 hx hZ hown (own_w hw 136 rfl) Via.refl f1369 hby rfl d15_54 (fun T1370 Y1371 => ?_)
  have f1372 := f1351.wr W1361
  have f1373 := own_sn Fg_decimal W1292 (own_wf hw 139 rfl) (own_wf hw 120 rfl) (by decide) own_f6 own_f7
  have f1374 := own_sn f1373 W1302 (own_wf hw 139 rfl) (own_wf hw 123 rfl) (by decide) own_f6 own_f8
  have f1375 := own_sn f1374 W1314 (own_wf hw 139 rfl) (own_wf hw 126 rfl) (by decide) own_f6 own_f6
  have f1376 := own_sn f1375 W1328 (own_wf hw 139 rfl) (own_wf hw 129 rfl) (by decide) own_f6 own_f1
  have f1377 := own_sn f1376 W1338 (own_wf hw 139 rfl) (own_wf hw 131 rfl) (by decide) own_f6 own_f3
  have f1378 := own_sn f1377 W1349 (own_wf hw 139 rfl) (own_wf hw 133 rfl) (by decide) own_f6 own_f3
  have f1379 := own_sn f1378 W1361 (own_wf hw 139 rfl) (own_wf hw 135 rfl) (by decide) own_f6 own_f0
  refine p_putFN Y1371 hx hZ hown (own_w hw 138 rfl) Via.refl f1379 f1372 (Or.inr ⟨(own_w hw 139 rfl), rfl, hnm⟩) (own_w hw 112 rfl) g (ty := .boolean) (v' := (.int 0)) (by decide) rfl (by decide) hby rfl d15_57 (fun T1380 h1382 Y1381 W1383 F1384 => ?_)
  refine o_aloadN Y1381 hx hby d15_60 rfl rfl ?_
  refine o_aloadN Y1381 hx hby d15_61 rfl rfl ?_
  have f1385 := Fb_vertexColumns.other W1292 (Or.inl m1)
  have f1386 := f1385.other W1302 (Or.inl m1)
  have f1387 := f1386.other W1314 (Or.inl m1)
  have f1388 := f1387.other W1328 (Or.inl m1)
  have f1389 := f1388.other W1338 (Or.inl m1)
  have f1390 := f1389.other W1349 (Or.inl m1)
  have f1391 := f1390.other W1361 (Or.inl m1)
  have f1392 := f1391.other W1383 (Or.inl m1)
  refine p_getFR Y1381 hx hZ hown (own_w hw 140 rfl) Via.refl f1392 hby rfl d15_62 (fun T1393 Y1394 => ?_)
  have f1395 := f1372.wr W1383
  have f1396 := own_sn Fg_vertexColumns W1292 (own_wf hw 142 rfl) (own_wf hw 120 rfl) (by decide) own_f5 own_f7
  have f1397 := own_sn f1396 W1302 (own_wf hw 142 rfl) (own_wf hw 123 rfl) (by decide) own_f5 own_f8
  have f1398 := own_sn f1397 W1314 (own_wf hw 142 rfl) (own_wf hw 126 rfl) (by decide) own_f5 own_f6
  have f1399 := own_sn f1398 W1328 (own_wf hw 142 rfl) (own_wf hw 129 rfl) (by decide) own_f5 own_f1
  have f1400 := own_sn f1399 W1338 (own_wf hw 142 rfl) (own_wf hw 131 rfl) (by decide) own_f5 own_f3
  have f1401 := own_sn f1400 W1349 (own_wf hw 142 rfl) (own_wf hw 133 rfl) (by decide) own_f5 own_f3
  have f1402 := own_sn f1401 W1361 (own_wf hw 142 rfl) (own_wf hw 135 rfl) (by decide) own_f5 own_f0
  have f1403 := own_sn f1402 W1383 (own_wf hw 142 rfl) (own_wf hw 139 rfl) (by decide) own_f5 own_f6
  refine p_putF Y1394 hx hZ hown (host := "") (Or.inl (own_w hw 141 rfl)) Via.refl f1403 f1395 (Or.inr ⟨(own_w hw 142 rfl), rfl, hnm⟩) (own_w hw 112 rfl) g (ty := (.object "java/util/List")) (by decide) rfl rfl hby rfl d15_65 (fun T1404 h1406 Y1405 W1407 F1408 => ?_)
  refine o_aloadN Y1405 hx hby d15_68 rfl rfl ?_
  refine o_aloadN Y1405 hx hby d15_69 rfl rfl ?_
  have f1409 := Fb_edgeColumns.other W1292 (Or.inl m1)
  have f1410 := f1409.other W1302 (Or.inl m1)
  have f1411 := f1410.other W1314 (Or.inl m1)
  have f1412 := f1411.other W1328 (Or.inl m1)
  have f1413 := f1412.other W1338 (Or.inl m1)
  have f1414 := f1413.other W1349 (Or.inl m1)
  have f1415 := f1414.other W1361 (Or.inl m1)
  have f1416 := f1415.other W1383 (Or.inl m1)
  have f1417 := f1416.other W1407 (Or.inl m1)
  refine p_getFR Y1405 hx hZ hown (own_w hw 143 rfl) Via.refl f1417 hby rfl d15_70 (fun T1418 Y1419 => ?_)
  have f1420 := f1395.wr W1407
  have f1421 := own_sn Fg_edgeColumns W1292 (own_wf hw 145 rfl) (own_wf hw 120 rfl) (by decide) own_f5 own_f7
  have f1422 := own_sn f1421 W1302 (own_wf hw 145 rfl) (own_wf hw 123 rfl) (by decide) own_f5 own_f8
  have f1423 := own_sn f1422 W1314 (own_wf hw 145 rfl) (own_wf hw 126 rfl) (by decide) own_f5 own_f6
  have f1424 := own_sn f1423 W1328 (own_wf hw 145 rfl) (own_wf hw 129 rfl) (by decide) own_f5 own_f1
  have f1425 := own_sn f1424 W1338 (own_wf hw 145 rfl) (own_wf hw 131 rfl) (by decide) own_f5 own_f3
  have f1426 := own_sn f1425 W1349 (own_wf hw 145 rfl) (own_wf hw 133 rfl) (by decide) own_f5 own_f3
  have f1427 := own_sn f1426 W1361 (own_wf hw 145 rfl) (own_wf hw 135 rfl) (by decide) own_f5 own_f0
  have f1428 := own_sn f1427 W1383 (own_wf hw 145 rfl) (own_wf hw 139 rfl) (by decide) own_f5 own_f6
  have f1429 := own_sn f1428 W1407 (own_wf hw 145 rfl) (own_wf hw 142 rfl) (by decide) own_f5 own_f5
  refine p_putF Y1419 hx hZ hown (host := "") (Or.inl (own_w hw 144 rfl)) Via.refl f1429 f1420 (Or.inr ⟨(own_w hw 145 rfl), rfl, hnm⟩) (own_w hw 112 rfl) g (ty := (.object "java/util/List")) (by decide) rfl rfl hby rfl d15_73 (fun T1430 h1432 Y1431 W1433 F1434 => ?_)
  have K1435 : Keep h0 h1291 [r0] := (Keep.refl h0 [r0]).wr W1292 (Or.inl (List.mem_of_getElem? (i := 0) rfl))
  have K1436 : Keep h0 h1301 [r0] := K1435.wr W1302 (Or.inl (List.mem_of_getElem? (i := 0) rfl))
  have K1437 : Keep h0 h1313 [r0] := K1436.wr W1314 (Or.inl (List.mem_of_getElem? (i := 0) rfl))
  have K1438 : Keep h0 h1327 [r0] := K1437.wr W1328 (Or.inl (List.mem_of_getElem? (i := 0) rfl))
  have K1439 : Keep h0 h1337 [r0] := K1438.wr W1338 (Or.inl (List.mem_of_getElem? (i := 0) rfl))
  have K1440 : Keep h0 h1348 [r0] := K1439.wr W1349 (Or.inl (List.mem_of_getElem? (i := 0) rfl))
  have K1441 : Keep h0 h1360 [r0] := K1440.wr W1361 (Or.inl (List.mem_of_getElem? (i := 0) rfl))
  have K1442 : Keep h0 h1382 [r0] := K1441.wr W1383 (Or.inl (List.mem_of_getElem? (i := 0) rfl))
  have K1443 : Keep h0 h1406 [r0] := K1442.wr W1407 (Or.inl (List.mem_of_getElem? (i := 0) rfl))
  have K1444 : Keep h0 h1432 [r0] := K1443.wr W1433 (Or.inl (List.mem_of_getElem? (i := 0) rfl))
  have f1445 := f1420.wr W1433
  have f1446 := own_sn F1293 W1302 (own_wf hw 120 rfl) (own_wf hw 123 rfl) (by decide) own_f7 own_f8
  have f1447 := own_sn f1446 W1314 (own_wf hw 120 rfl) (own_wf hw 126 rfl) (by decide) own_f7 own_f6
  have f1448 := own_sn f1447 W1328 (own_wf hw 120 rfl) (own_wf hw 129 rfl) (by decide) own_f7 own_f1
  have f1449 := own_sn f1448 W1338 (own_wf hw 120 rfl) (own_wf hw 131 rfl) (by decide) own_f7 own_f3
  have f1450 := own_sn f1449 W1349 (own_wf hw 120 rfl) (own_wf hw 133 rfl) (by decide) own_f7 own_f3
  have f1451 := own_sn f1450 W1361 (own_wf hw 120 rfl) (own_wf hw 135 rfl) (by decide) own_f7 own_f0
  have f1452 := own_sn f1451 W1383 (own_wf hw 120 rfl) (own_wf hw 139 rfl) (by decide) own_f7 own_f6
  have f1453 := own_sn f1452 W1407 (own_wf hw 120 rfl) (own_wf hw 142 rfl) (by decide) own_f7 own_f5
  have f1454 := own_sn f1453 W1433 (own_wf hw 120 rfl) (own_wf hw 145 rfl) (by decide) own_f7 own_f5
  have f1455 := own_sn F1315 W1328 (own_wf hw 126 rfl) (own_wf hw 129 rfl) (by decide) own_f6 own_f1
  have f1456 := own_sn f1455 W1338 (own_wf hw 126 rfl) (own_wf hw 131 rfl) (by decide) own_f6 own_f3
  have f1457 := own_sn f1456 W1349 (own_wf hw 126 rfl) (own_wf hw 133 rfl) (by decide) own_f6 own_f3
  have f1458 := own_sn f1457 W1361 (own_wf hw 126 rfl) (own_wf hw 135 rfl) (by decide) own_f6 own_f0
  have f1459 := own_sn f1458 W1383 (own_wf hw 126 rfl) (own_wf hw 139 rfl) (by decide) own_f6 own_f6
  have f1460 := own_sn f1459 W1407 (own_wf hw 126 rfl) (own_wf hw 142 rfl) (by decide) own_f6 own_f5
  have f1461 := own_sn f1460 W1433 (own_wf hw 126 rfl) (own_wf hw 145 rfl) (by decide) own_f6 own_f5
  have f1462 := own_sn F1339 W1349 (own_wf hw 131 rfl) (own_wf hw 133 rfl) (by decide) own_f3 own_f3
  have f1463 := own_sn f1462 W1361 (own_wf hw 131 rfl) (own_wf hw 135 rfl) (by decide) own_f3 own_f0
  have f1464 := own_sn f1463 W1383 (own_wf hw 131 rfl) (own_wf hw 139 rfl) (by decide) own_f3 own_f6
  have f1465 := own_sn f1464 W1407 (own_wf hw 131 rfl) (own_wf hw 142 rfl) (by decide) own_f3 own_f5
  have f1466 := own_sn f1465 W1433 (own_wf hw 131 rfl) (own_wf hw 145 rfl) (by decide) own_f3 own_f5
  have f1467 := own_sn F1350 W1361 (own_wf hw 133 rfl) (own_wf hw 135 rfl) (by decide) own_f3 own_f0
  have f1468 := own_sn f1467 W1383 (own_wf hw 133 rfl) (own_wf hw 139 rfl) (by decide) own_f3 own_f6
  have f1469 := own_sn f1468 W1407 (own_wf hw 133 rfl) (own_wf hw 142 rfl) (by decide) own_f3 own_f5
  have f1470 := own_sn f1469 W1433 (own_wf hw 133 rfl) (own_wf hw 145 rfl) (by decide) own_f3 own_f5
  refine own_retV Y1431 hx hlk hret (hb hby d15_76) (by decide) (by decide) ?_
  exact ⟨rfl, K1444, f1445, f1454, f1461, f1466, f1470⟩
theorem own_pd7 : parseMethodDescriptor "()I" = some ⟨[], some .int⟩ := by decide +kernel
theorem own_pd8 : parseMethodDescriptor "()V" = some ⟨[], none⟩ := by decide +kernel
theorem own_pd9 : parseMethodDescriptor "(Lkombos/graph/Graph$Builder;[I[I[J)V" = some ⟨[(.object "kombos/graph/Graph$Builder"), (.array .int), (.array .int), (.array .long)], none⟩ := by decide +kernel
def bc12 : ByteArray := prog_45_method_18_code
theorem d12_0 : decode bc12 0 = .ok (.aload_n 0, 1) := by decide +kernel
theorem d12_1 : decode bc12 1 = .ok (.getfield 53, 3) := by decide +kernel
theorem d12_4 : decode bc12 4 = .ok (.invokevirtual 115, 3) := by decide +kernel
theorem d12_7 : decode bc12 7 = .ok (.istore_n 1, 1) := by decide +kernel
theorem d12_8 : decode bc12 8 = .ok (.aload_n 0, 1) := by decide +kernel
theorem d12_9 : decode bc12 9 = .ok (.getfield 180, 3) := by decide +kernel
theorem d12_12 : decode bc12 12 = .ok (.sipush 8191, 3) := by decide +kernel
theorem d12_15 : decode bc12 15 = .ok (.iadd, 1) := by decide +kernel
theorem d12_16 : decode bc12 16 = .ok (.bipush 13, 2) := by decide +kernel
theorem d12_18 : decode bc12 18 = .ok (.iushr, 1) := by decide +kernel
theorem d12_19 : decode bc12 19 = .ok (.istore_n 2, 1) := by decide +kernel
theorem d12_20 : decode bc12 20 = .ok (.iload_n 1, 1) := by decide +kernel
theorem d12_21 : decode bc12 21 = .ok (.iconst 1, 1) := by decide +kernel
theorem d12_22 : decode bc12 22 = .ok (.iadd, 1) := by decide +kernel
theorem d12_23 : decode bc12 23 = .ok (.newarray .int, 2) := by decide +kernel
theorem d12_25 : decode bc12 25 = .ok (.astore_n 3, 1) := by decide +kernel
theorem d12_26 : decode bc12 26 = .ok (.iconst 0, 1) := by decide +kernel
theorem d12_27 : decode bc12 27 = .ok (.istore 4, 2) := by decide +kernel
theorem d12_29 : decode bc12 29 = .ok (.iload 4, 2) := by decide +kernel
theorem d12_31 : decode bc12 31 = .ok (.iload_n 2, 1) := by decide +kernel
theorem d12_32 : decode bc12 32 = .ok (.if_icmp .ge 16, 3) := by decide +kernel
theorem d12_48 : decode bc12 48 = .ok (.iconst 0, 1) := by decide +kernel
theorem d12_49 : decode bc12 49 = .ok (.istore 4, 2) := by decide +kernel
theorem d12_51 : decode bc12 51 = .ok (.iload 4, 2) := by decide +kernel
theorem d12_53 : decode bc12 53 = .ok (.iload_n 1, 1) := by decide +kernel
theorem d12_54 : decode bc12 54 = .ok (.if_icmp .ge 22, 3) := by decide +kernel
theorem d12_57 : decode bc12 57 = .ok (.aload_n 3, 1) := by decide +kernel
theorem d12_58 : decode bc12 58 = .ok (.iload 4, 2) := by decide +kernel
theorem d12_60 : decode bc12 60 = .ok (.iconst 1, 1) := by decide +kernel
theorem d12_61 : decode bc12 61 = .ok (.iadd, 1) := by decide +kernel
theorem d12_62 : decode bc12 62 = .ok (.dup2, 1) := by decide +kernel
theorem d12_63 : decode bc12 63 = .ok (.iaload, 1) := by decide +kernel
theorem d12_64 : decode bc12 64 = .ok (.aload_n 3, 1) := by decide +kernel
theorem d12_65 : decode bc12 65 = .ok (.iload 4, 2) := by decide +kernel
theorem d12_67 : decode bc12 67 = .ok (.iaload, 1) := by decide +kernel
theorem d12_68 : decode bc12 68 = .ok (.iadd, 1) := by decide +kernel
theorem d12_69 : decode bc12 69 = .ok (.iastore, 1) := by decide +kernel
theorem d12_70 : decode bc12 70 = .ok (.iinc 4 1, 3) := by decide +kernel
theorem d12_73 : decode bc12 73 = .ok (.goto (-22), 3) := by decide +kernel
theorem d12_76 : decode bc12 76 = .ok (.aload_n 3, 1) := by decide +kernel
theorem d12_77 : decode bc12 77 = .ok (.iload_n 1, 1) := by decide +kernel
theorem d12_78 : decode bc12 78 = .ok (.iaload, 1) := by decide +kernel
theorem d12_79 : decode bc12 79 = .ok (.newarray .int, 2) := by decide +kernel
theorem d12_81 : decode bc12 81 = .ok (.astore 4, 2) := by decide +kernel
theorem d12_83 : decode bc12 83 = .ok (.aload_n 0, 1) := by decide +kernel
theorem d12_84 : decode bc12 84 = .ok (.getfield 134, 3) := by decide +kernel
theorem d12_87 : decode bc12 87 = .ok (.ifnonnull 7, 3) := by decide +kernel
theorem d12_90 : decode bc12 90 = .ok (.aconst_null, 1) := by decide +kernel
theorem d12_91 : decode bc12 91 = .ok (.goto 8, 3) := by decide +kernel
theorem d12_99 : decode bc12 99 = .ok (.astore 5, 2) := by decide +kernel
theorem d12_101 : decode bc12 101 = .ok (.iconst 0, 1) := by decide +kernel
theorem d12_102 : decode bc12 102 = .ok (.istore 6, 2) := by decide +kernel
theorem d12_104 : decode bc12 104 = .ok (.iload 6, 2) := by decide +kernel
theorem d12_106 : decode bc12 106 = .ok (.iload_n 2, 1) := by decide +kernel
theorem d12_107 : decode bc12 107 = .ok (.if_icmp .ge 20, 3) := by decide +kernel
theorem d12_127 : decode bc12 127 = .ok (.aload_n 3, 1) := by decide +kernel
theorem d12_128 : decode bc12 128 = .ok (.iconst 0, 1) := by decide +kernel
theorem d12_129 : decode bc12 129 = .ok (.aload_n 3, 1) := by decide +kernel
theorem d12_130 : decode bc12 130 = .ok (.iconst 1, 1) := by decide +kernel
theorem d12_131 : decode bc12 131 = .ok (.iload_n 1, 1) := by decide +kernel
theorem d12_132 : decode bc12 132 = .ok (.invokestatic 209, 3) := by decide +kernel
theorem d12_135 : decode bc12 135 = .ok (.aload_n 3, 1) := by decide +kernel
theorem d12_136 : decode bc12 136 = .ok (.iconst 0, 1) := by decide +kernel
theorem d12_137 : decode bc12 137 = .ok (.iconst 0, 1) := by decide +kernel
theorem d12_138 : decode bc12 138 = .ok (.iastore, 1) := by decide +kernel
theorem d12_139 : decode bc12 139 = .ok (.aload_n 0, 1) := by decide +kernel
theorem d12_140 : decode bc12 140 = .ok (.aconst_null, 1) := by decide +kernel
theorem d12_141 : decode bc12 141 = .ok (.putfield 20, 3) := by decide +kernel
theorem d12_144 : decode bc12 144 = .ok (.aload_n 0, 1) := by decide +kernel
theorem d12_145 : decode bc12 145 = .ok (.aconst_null, 1) := by decide +kernel
theorem d12_146 : decode bc12 146 = .ok (.putfield 24, 3) := by decide +kernel
theorem d12_149 : decode bc12 149 = .ok (.aload_n 0, 1) := by decide +kernel
theorem d12_150 : decode bc12 150 = .ok (.aconst_null, 1) := by decide +kernel
theorem d12_151 : decode bc12 151 = .ok (.putfield 134, 3) := by decide +kernel
theorem d12_154 : decode bc12 154 = .ok (.aload_n 0, 1) := by decide +kernel
theorem d12_155 : decode bc12 155 = .ok (.getfield 53, 3) := by decide +kernel
theorem d12_158 : decode bc12 158 = .ok (.invokevirtual 215, 3) := by decide +kernel
theorem d12_161 : decode bc12 161 = .ok (.aload_n 0, 1) := by decide +kernel
theorem d12_162 : decode bc12 162 = .ok (.getfield 111, 3) := by decide +kernel
theorem d12_165 : decode bc12 165 = .ok (.ifnull 10, 3) := by decide +kernel
theorem d12_175 : decode bc12 175 = .ok (.new 64, 3) := by decide +kernel
theorem d12_178 : decode bc12 178 = .ok (.dup, 1) := by decide +kernel
theorem d12_179 : decode bc12 179 = .ok (.aload_n 0, 1) := by decide +kernel
theorem d12_180 : decode bc12 180 = .ok (.aload_n 3, 1) := by decide +kernel
theorem d12_181 : decode bc12 181 = .ok (.aload 4, 2) := by decide +kernel
theorem d12_183 : decode bc12 183 = .ok (.aload 5, 2) := by decide +kernel
theorem d12_185 : decode bc12 185 = .ok (.invokespecial 219, 3) := by decide +kernel
theorem d12_188 : decode bc12 188 = .ok (.areturn, 1) := by decide +kernel
theorem own_ef_own_rm12_0 (m : MethodId) (r0 : Addr) : entryFrame m #[(.ref r0)] 7 = mkF m 0 #[rv r0, .unset, .unset, .unset, .unset, .unset, .unset] [] := by first | (simp [entryFrame, mkF, argsToLocals, Value.category]; done) | rfl
def own_Q_own_rm12_0 (Z : State) (ix : Addr) (h0 : Heap) (n0 : Nat) (v : Option Value) (h : Heap) : Prop := ∃ gr es tg : Addr, v = some (.ref gr) ∧ n0 ≤ h.size ∧ Exa Z h gr "kombos/graph/Graph" ∧ Fld Z h gr "kombos/graph/Graph" "index" "Lkombos/graph/IdIndex;" (.ref ix) ∧ Fld Z h gr "kombos/graph/Graph" "directed" "Z" (.int 0) ∧ Fld Z h gr "kombos/graph/Graph" "edgeStart" "[I" (.ref es) ∧ Fld Z h gr "kombos/graph/Graph" "edgeTarget" "[I" (.ref tg) ∧ own_A Z h es .int [(.int 0), (.int 0), (.int 0), (.int 0)] ∧ own_A Z h tg .int (([] : List Int32).map Value.int) ∧ Exa Z h ix "kombos/graph/IdIndex" ∧ Fld Z h ix "kombos/graph/IdIndex" "ids" "[J" .null ∧ Fld Z h ix "kombos/graph/IdIndex" "size" "I" (.int 3)
set_option maxRecDepth 65536 in
set_option maxHeartbeats 40000000 in
theorem own_rm12_0 (l : Launch) (Z : State) (a0 : Array Value) (hw : ∀ d ∈ tables_1, d.before a0 Z = true) (ws : List Jvm.Cond) (r0 : Addr) (sa ta ix el : Addr) (h0 : Heap) (n0 : Nat) (Z0 : n0 ≤ h0.size) (Eb : Exa Z h0 r0 "kombos/graph/Graph$Builder") (Fb_sources : Fld Z h0 r0 "kombos/graph/Graph$Builder" "sources" "[[I" (.ref sa)) (Fb_targets : Fld Z h0 r0 "kombos/graph/Graph$Builder" "targets" "[[I" (.ref ta)) (Fb_vertexColumns : Fld Z h0 r0 "kombos/graph/Graph$Builder" "vertexColumns" "Ljava/util/List;" (.ref el)) (Fb_edgeColumns : Fld Z h0 r0 "kombos/graph/Graph$Builder" "edgeColumns" "Ljava/util/List;" (.ref el)) (Fb_directed : Fld Z h0 r0 "kombos/graph/Graph$Builder" "directed" "Z" (.int 0)) (Fb_maxVertices : Fld Z h0 r0 "kombos/graph/Graph$Builder" "maxVertices" "I" (.int 536870912)) (Fb_index : Fld Z h0 r0 "kombos/graph/Graph$Builder" "index" "Lkombos/graph/IdIndex;" (.ref ix)) (Fb_maxEdges : Fld Z h0 r0 "kombos/graph/Graph$Builder" "maxEdges" "I" (.int 1073741819)) (Fb_keys : Fld Z h0 r0 "kombos/graph/Graph$Builder" "keys" "Lkombos/graph/KeyIndex;" .null) (Fb_edgeCount : Fld Z h0 r0 "kombos/graph/Graph$Builder" "edgeCount" "I" (.int 0)) (Fb_weights : Fld Z h0 r0 "kombos/graph/Graph$Builder" "weights" "[[J" .null) (Fb_decimal : Fld Z h0 r0 "kombos/graph/Graph$Builder" "decimal" "Z" (.int 0)) (Ex : Exa Z h0 ix "kombos/graph/IdIndex") (Fx_ids : Fld Z h0 ix "kombos/graph/IdIndex" "ids" "[J" .null) (Fx_size : Fld Z h0 ix "kombos/graph/IdIndex" "size" "I" (.int 3)) (nsr : sa ≠ r0) (ntr : ta ≠ r0) (nir : ix ≠ r0) (g : n0 ≤ r0) :
    own_Con l Z (⟨"kombos/graph/Graph$Builder", "build", "()Lkombos/graph/Graph;"⟩ : MethodName) prog_45_method_18_code 7 (some (.object "kombos/graph/Graph")) ws ({ frames := 2, cells := 3, slots := 14, locals := 64 } : Room) #[(.ref r0)] h0 n0 (own_Q_own_rm12_0 Z ix h0 n0) := by
  refine own_body (plainFor_of_name own_pn1) ?_
  intro p e s m below meth c T0 hx hZ hby hml hown hnm hret hlk Y0
  replace hown : s.vm.findClass "kombos/graph/Graph$Builder" = some m.cls := hown
  replace hnm : meth.name = "build" := hnm
  rw [own_ef_own_rm12_0 m r0]
  show own_Ends _ _ _ _ (T0.setTop (mkF m 0 #[rv r0, .unset, .unset, .unset, .unset, .unset, .unset] []))
  refine o_aloadN Y0 hx hby d12_0 rfl rfl ?_
  refine p_getF Y0 hx hZ hown (host := "") (Or.inl (own_w hw 43 rfl)) Via.refl Fb_index hby rfl d12_1 (fun T1471 Y1472 => ?_)
  refine own_callV Y1472 hx hZ (y := (⟨"kombos/graph/IdIndex", "size", "()I"⟩ : MethodName)) (z := (⟨"kombos/graph/IdIndex", "size", "()I"⟩ : MethodName)) hown (own_w hw 92 rfl) (own_w hw 93 rfl) (notFace_of_selects (args := #[]) (mvT hZ (own_w hw 95 rfl))) (own_w hw 95 rfl) (own_w hw 94 rfl) (own_w hw 36 rfl) (own_w hw 96 rfl) (by decide) (a := ix) Ex (argsL := []) (rest := []) (own_rm13 l Z a0 hw [] ix  h0 n0  Ex Fx_size) (W := 0) (by decide) (by decide) (by decide) (by decide) rfl (by rw [hml]; rfl) (lenOf own_pd7 rfl) rfl (by show 2 * 0 + _ ≤ _; exact Nat.le_of_eq rfl) (hb hby d12_4) (fun T1473 h1475 v1476 Y1474 q1477 => ?_)
  obtain ⟨rfl, rfl⟩ := q1477
  show own_Ends _ _ _ _ (T1473.setTop (mkF m 7 #[rv r0, .unset, .unset, .unset, .unset, .unset, .unset] [(.int 3)]))
  refine o_istoreN Y1474 hx hby d12_7 rfl (l' := #[rv r0, iv 3, .unset, .unset, .unset, .unset, .unset]) rfl ?_
  refine o_aloadN Y1474 hx hby d12_8 rfl rfl ?_
  refine p_getF Y1474 hx hZ hown (host := "") (Or.inl (own_w hw 97 rfl)) Via.refl Fb_edgeCount hby rfl d12_9 (fun T1478 Y1479 => ?_)
  refine o_sipush Y1479 hx hby d12_12 (x := 8191) rfl ?_
  refine o_iadd Y1479 hx hby d12_15 rfl (z := 8191) rfl ?_
  refine o_bipush Y1479 hx hby d12_16 (x := 13) rfl ?_
  refine own_st (fun t_ => XS.iushr (own_here Y1479) hx rfl (hb hby d12_18) rfl) ?_
  show own_Ends _ _ _ _ (T1478.setTop (mkF m 19 #[rv r0, iv 3, .unset, .unset, .unset, .unset, .unset] [(.int 0)]))
  refine o_istoreN Y1479 hx hby d12_19 rfl (l' := #[rv r0, iv 3, iv 0, .unset, .unset, .unset, .unset]) rfl ?_
  refine o_iloadN Y1479 hx hby d12_20 rfl ?_
  refine o_iconst Y1479 hx hby d12_21 (x := 1) rfl ?_
  refine o_iadd Y1479 hx hby d12_22 rfl (z := 4) rfl ?_
  refine own_newP Y1479 hx hZ (own_w hw 99 rfl) rfl (hb hby d12_23) rfl (by decide) (nz := 4) (cap := 4) (by decide) (by decide) (by decide) (by decide) (by decide) (ty := .int) rfl (fun T1480 h1482 b1485 eb1486 Y1481 E1483 A1484 => ?_)
  have ne1487 : r0 ≠ b1485 := Nat.ne_of_lt (by rw [eb1486]; exact Eb.lt)
  have ne1488 : ix ≠ b1485 := Nat.ne_of_lt (by rw [eb1486]; exact Ex.lt)
  have g1489 : n0 ≤ b1485 := by rw [eb1486]; exact Z0
  replace A1484 : own_A Z h1482 b1485 .int [(.int 0), (.int 0), (.int 0), (.int 0)] := A1484
  show own_Ends _ _ _ _ (T1480.setTop (mkF m 25 #[rv r0, iv 3, iv 0, .unset, .unset, .unset, .unset] [(.ref b1485)]))
  refine o_astoreN Y1481 hx hby d12_25 rfl rfl (l' := #[rv r0, iv 3, iv 0, rv b1485, .unset, .unset, .unset]) rfl ?_
  refine o_iconst Y1481 hx hby d12_26 (x := 0) rfl ?_
  refine o_istore Y1481 hx hby d12_27 rfl (l' := #[rv r0, iv 3, iv 0, rv b1485, iv 0, .unset, .unset]) rfl ?_
  refine o_iload Y1481 hx hby d12_29 rfl ?_
  refine o_iloadN Y1481 hx hby d12_31 rfl ?_
  refine o_icmpYes Y1481 hx hby (pc' := 48) d12_32 rfl (XT.ii_ge_t (by decide)) (by decide) (by decide) ?_
  refine o_iconst Y1481 hx hby d12_48 (x := 0) rfl ?_
  refine o_istore Y1481 hx hby d12_49 rfl (l' := #[rv r0, iv 3, iv 0, rv b1485, iv 0, .unset, .unset]) rfl ?_
  refine o_iload Y1481 hx hby d12_51 rfl ?_
  refine o_iloadN Y1481 hx hby d12_53 rfl ?_
  refine o_icmpNo Y1481 hx hby d12_54 rfl (XT.ii_ge_f (by decide)) ?_
  refine o_aloadN Y1481 hx hby d12_57 rfl rfl ?_
  refine o_iload Y1481 hx hby d12_58 rfl ?_
  refine o_iconst Y1481 hx hby d12_60 (x := 1) rfl ?_
  refine o_iadd Y1481 hx hby d12_61 rfl (z := 1) rfl ?_
  refine o_dup2 Y1481 hx hby d12_62 rfl rfl rfl ?_
  refine p_ldI Y1481 hx hZ A1484 (i := 1) (by decide) (by decide) (Nat.le_of_ble_eq_true rfl) (v := (.int 0)) rfl hby rfl d12_63 ?_
  refine o_aloadN Y1481 hx hby d12_64 rfl rfl ?_
  refine o_iload Y1481 hx hby d12_65 rfl ?_
  refine p_ldI Y1481 hx hZ A1484 (i := 0) (by decide) (by decide) (Nat.le_of_ble_eq_true rfl) (v := (.int 0)) rfl hby rfl d12_67 ?_
  refine o_iadd Y1481 hx hby d12_68 rfl (z := 0) rfl ?_
  refine p_stI Y1481 hx hZ A1484 g1489 (i := 1) (by decide) (by decide) (Nat.le_of_ble_eq_true rfl) hby rfl d12_69 (fun T1490 h1492 Y1491 W1493 A1494 => ?_)
  replace A1494 : own_A Z h1492 b1485 .int [(.int 0), (.int 0), (.int 0), (.int 0)] := A1494
  refine o_iinc Y1491 hx hby d12_70 rfl (l' := #[rv r0, iv 3, iv 0, rv b1485, iv 1, .unset, .unset]) rfl ?_
  refine o_goto Y1491 hx hby (pc' := 51) d12_73 (by decide) (by decide) ?_
  refine o_iload Y1491 hx hby d12_51 rfl ?_
  refine o_iloadN Y1491 hx hby d12_53 rfl ?_
  refine o_icmpNo Y1491 hx hby d12_54 rfl (XT.ii_ge_f (by decide)) ?_
  refine o_aloadN Y1491 hx hby d12_57 rfl rfl ?_
  refine o_iload Y1491 hx hby d12_58 rfl ?_
  refine o_iconst Y1491 hx hby d12_60 (x := 1) rfl ?_
  refine o_iadd Y1491 hx hby d12_61 rfl (z := 2) rfl ?_
  refine o_dup2 Y1491 hx hby d12_62 rfl rfl rfl ?_
  refine p_ldI Y1491 hx hZ A1494 (i := 2) (by decide) (by decide) (Nat.le_of_ble_eq_true rfl) (v := (.int 0)) rfl hby rfl d12_63 ?_
  refine o_aloadN Y1491 hx hby d12_64 rfl rfl ?_
  refine o_iload Y1491 hx hby d12_65 rfl ?_
  refine p_ldI Y1491 hx hZ A1494 (i := 1) (by decide) (by decide) (Nat.le_of_ble_eq_true rfl) (v := (.int 0)) rfl hby rfl d12_67 ?_
  refine o_iadd Y1491 hx hby d12_68 rfl (z := 0) rfl ?_
  refine p_stI Y1491 hx hZ A1494 g1489 (i := 2) (by decide) (by decide) (Nat.le_of_ble_eq_true rfl) hby rfl d12_69 (fun T1495 h1497 Y1496 W1498 A1499 => ?_)
  replace A1499 : own_A Z h1497 b1485 .int [(.int 0), (.int 0), (.int 0), (.int 0)] := A1499
  refine o_iinc Y1496 hx hby d12_70 rfl (l' := #[rv r0, iv 3, iv 0, rv b1485, iv 2, .unset, .unset]) rfl ?_
  refine o_goto Y1496 hx hby (pc' := 51) d12_73 (by decide) (by decide) ?_
  refine o_iload Y1496 hx hby d12_51 rfl ?_
  refine o_iloadN Y1496 hx hby d12_53 rfl ?_
  refine o_icmpNo Y1496 hx hby d12_54 rfl (XT.ii_ge_f (by decide)) ?_
  refine o_aloadN Y1496 hx hby d12_57 rfl rfl ?_
  refine o_iload Y1496 hx hby d12_58 rfl ?_
  refine o_iconst Y1496 hx hby d12_60 (x := 1) rfl ?_
  refine o_iadd Y1496 hx hby d12_61 rfl (z := 3) rfl ?_
  refine o_dup2 Y1496 hx hby d12_62 rfl rfl rfl ?_
  refine p_ldI Y1496 hx hZ A1499 (i := 3) (by decide) (by decide) (Nat.le_of_ble_eq_true rfl) (v := (.int 0)) rfl hby rfl d12_63 ?_
  refine o_aloadN Y1496 hx hby d12_64 rfl rfl ?_
  refine o_iload Y1496 hx hby d12_65 rfl ?_
  refine p_ldI Y1496 hx hZ A1499 (i := 2) (by decide) (by decide) (Nat.le_of_ble_eq_true rfl) (v := (.int 0)) rfl hby rfl d12_67 ?_
  refine o_iadd Y1496 hx hby d12_68 rfl (z := 0) rfl ?_
  refine p_stI Y1496 hx hZ A1499 g1489 (i := 3) (by decide) (by decide) (Nat.le_of_ble_eq_true rfl) hby rfl d12_69 (fun T1500 h1502 Y1501 W1503 A1504 => ?_)
  replace A1504 : own_A Z h1502 b1485 .int [(.int 0), (.int 0), (.int 0), (.int 0)] := A1504
  refine o_iinc Y1501 hx hby d12_70 rfl (l' := #[rv r0, iv 3, iv 0, rv b1485, iv 3, .unset, .unset]) rfl ?_
  refine o_goto Y1501 hx hby (pc' := 51) d12_73 (by decide) (by decide) ?_
  refine o_iload Y1501 hx hby d12_51 rfl ?_
  refine o_iloadN Y1501 hx hby d12_53 rfl ?_
  refine o_icmpYes Y1501 hx hby (pc' := 76) d12_54 rfl (XT.ii_ge_t (by decide)) (by decide) (by decide) ?_
  refine o_aloadN Y1501 hx hby d12_76 rfl rfl ?_
  refine o_iloadN Y1501 hx hby d12_77 rfl ?_
  refine p_ldI Y1501 hx hZ A1504 (i := 3) (by decide) (by decide) (Nat.le_of_ble_eq_true rfl) (v := (.int 0)) rfl hby rfl d12_78 ?_
  refine own_newP Y1501 hx hZ (own_w hw 99 rfl) rfl (hb hby d12_79) rfl (by decide) (nz := 0) (cap := 0) (by decide) (by decide) (by decide) (by decide) (by decide) (ty := .int) rfl (fun T1505 h1507 b1510 eb1511 Y1506 E1508 A1509 => ?_)
  have f1512 := Eb.ext E1483
  have f1513 := f1512.wr W1493
  have f1514 := f1513.wr W1498
  have f1515 := f1514.wr W1503
  have ne1516 : r0 ≠ b1510 := Nat.ne_of_lt (by rw [eb1511]; exact f1515.lt)
  have f1517 := Ex.ext E1483
  have f1518 := f1517.wr W1493
  have f1519 := f1518.wr W1498
  have f1520 := f1519.wr W1503
  have ne1521 : ix ≠ b1510 := Nat.ne_of_lt (by rw [eb1511]; exact f1520.lt)
  have ne1522 : b1485 ≠ b1510 := Nat.ne_of_lt (by rw [eb1511]; exact A1504.lt)
  have z1524 : n0 ≤ h1482.size := Nat.le_trans Z0 E1483.1
  have z1525 : n0 ≤ h1492.size := Nat.le_trans z1524 (Nat.le_of_eq W1493.size.symm)
  have z1526 : n0 ≤ h1497.size := Nat.le_trans z1525 (Nat.le_of_eq W1498.size.symm)
  have z1527 : n0 ≤ h1502.size := Nat.le_trans z1526 (Nat.le_of_eq W1503.size.symm)
  have g1523 : n0 ≤ b1510 := by rw [eb1511]; exact z1527
  replace A1509 : own_A Z h1507 b1510 .int [] := A1509
  show own_Ends _ _ _ _ (T1505.setTop (mkF m 81 #[rv r0, iv 3, iv 0, rv b1485, iv 3, .unset, .unset] [(.ref b1510)]))
  refine o_astore Y1506 hx hby d12_81 rfl rfl (l' := #[rv r0, iv 3, iv 0, rv b1485, rv b1510, .unset, .unset]) rfl ?_
  refine o_aloadN Y1506 hx hby d12_83 rfl rfl ?_
  have f1528 := Fb_weights.ext E1483
  have f1529 := f1528.other W1493 (Or.inl ne1487)
  have f1530 := f1529.other W1498 (Or.inl ne1487)
  have f1531 := f1530.other W1503 (Or.inl ne1487)
  have f1532 := f1531.ext E1508
  refine p_getF Y1506 hx hZ hown (host := "") (Or.inl (own_w hw 100 rfl)) Via.refl f1532 hby rfl d12_84 (fun T1533 Y1534 => ?_)
  refine o_ifnonnullNo Y1534 hx hby d12_87 rfl ?_
  refine o_aconstNull Y1534 hx hby d12_90  ?_
  refine o_goto Y1534 hx hby (pc' := 99) d12_91 (by decide) (by decide) ?_
  refine o_astore Y1534 hx hby d12_99 rfl rfl (l' := #[rv r0, iv 3, iv 0, rv b1485, rv b1510, .val .null, .unset]) rfl ?_
  refine o_iconst Y1534 hx hby d12_101 (x := 0) rfl ?_
  refine o_istore Y1534 hx hby d12_102 rfl (l' := #[rv r0, iv 3, iv 0, rv b1485, rv b1510, .val .null, iv 0]) rfl ?_
  refine o_iload Y1534 hx hby d12_104 rfl ?_
  refine o_iloadN Y1534 hx hby d12_106 rfl ?_
  refine o_icmpYes Y1534 hx hby (pc' := 127) d12_107 rfl (XT.ii_ge_t (by decide)) (by decide) (by decide) ?_
  refine o_aloadN Y1534 hx hby d12_127 rfl rfl ?_
  refine o_iconst Y1534 hx hby d12_128 (x := 0) rfl ?_
  refine o_aloadN Y1534 hx hby d12_129 rfl rfl ?_
  refine o_iconst Y1534 hx hby d12_130 (x := 1) rfl ?_
  refine o_iloadN Y1534 hx hby d12_131 rfl ?_
  have f1535 := A1504.ext E1508
  refine own_copy Y1534 hx hZ hown (own_w hw 102 rfl) (own_w hw 105 rfl) (own_w hw 103 rfl) (own_w hw 104 rfl) (a := b1485) (b := b1485) (xs := [(0 : Int32), (0 : Int32), (0 : Int32), (0 : Int32)]) (ys := [(0 : Int32), (0 : Int32), (0 : Int32), (0 : Int32)]) (zs := [(0 : Int32), (0 : Int32), (0 : Int32), (0 : Int32)]) f1535 f1535 (sN := 0) (dN := 1) (nN := 3) own_l0 own_l1 own_l3 (Nat.le_of_ble_eq_true rfl) (Nat.le_of_ble_eq_true rfl) rfl rfl g1489 rfl (by rw [hml]; rfl) rfl (hb hby d12_132) (by decide) (W := 0) (by show 2 * 0 + _ ≤ _; exact Nat.le_of_eq rfl) (by decide) (fun T1536 h1538 Y1537 K1539 A1540 => ?_)
  show own_Ends _ _ _ _ (T1536.setTop (mkF m 135 #[rv r0, iv 3, iv 0, rv b1485, rv b1510, .val .null, iv 0] []))
  have A1541 : own_A Z h1538 b1485 .int [(.int 0), (.int 0), (.int 0), (.int 0)] := A1540
  refine o_aloadN Y1537 hx hby d12_135 rfl rfl ?_
  refine o_iconst Y1537 hx hby d12_136 (x := 0) rfl ?_
  refine o_iconst Y1537 hx hby d12_137 (x := 0) rfl ?_
  refine p_stI Y1537 hx hZ A1541 g1489 (i := 0) (by decide) (by decide) (Nat.le_of_ble_eq_true rfl) hby rfl d12_138 (fun T1542 h1544 Y1543 W1545 A1546 => ?_)
  replace A1546 : own_A Z h1544 b1485 .int [(.int 0), (.int 0), (.int 0), (.int 0)] := A1546
  refine o_aloadN Y1543 hx hby d12_139 rfl rfl ?_
  refine o_aconstNull Y1543 hx hby d12_140  ?_
  have f1547 := f1515.ext E1508
  have f1548 := f1547.keep K1539
  have f1549 := f1548.wr W1545
  have f1550 := Fb_sources.ext E1483
  have f1551 := f1550.other W1493 (Or.inl ne1487)
  have f1552 := f1551.other W1498 (Or.inl ne1487)
  have f1553 := f1552.other W1503 (Or.inl ne1487)
  have f1554 := f1553.ext E1508
  have f1555 := f1554.keep K1539 (ninS ne1487 nin0)
  have f1556 := f1555.other W1545 (Or.inl ne1487)
  refine p_putF Y1543 hx hZ hown (host := "") (Or.inl (own_w hw 16 rfl)) Via.refl f1556 f1549 (Or.inl (own_w hw 17 rfl)) (own_w hw 1 rfl) g (ty := (.array (.array .int))) (by decide) rfl rfl hby rfl d12_141 (fun T1557 h1559 Y1558 W1560 F1561 => ?_)
  refine o_aloadN Y1558 hx hby d12_144 rfl rfl ?_
  refine o_aconstNull Y1558 hx hby d12_145  ?_
  have f1562 := f1549.wr W1560
  have f1563 := Fb_targets.ext E1483
  have f1564 := f1563.other W1493 (Or.inl ne1487)
  have f1565 := f1564.other W1498 (Or.inl ne1487)
  have f1566 := f1565.other W1503 (Or.inl ne1487)
  have f1567 := f1566.ext E1508
  have f1568 := f1567.keep K1539 (ninS ne1487 nin0)
  have f1569 := f1568.other W1545 (Or.inl ne1487)
  have f1570 := own_sn f1569 W1560 (own_wl hw 19 rfl) (own_wl hw 17 rfl) (by decide) own_f4 own_f4
  refine p_putF Y1558 hx hZ hown (host := "") (Or.inl (own_w hw 18 rfl)) Via.refl f1570 f1562 (Or.inl (own_w hw 19 rfl)) (own_w hw 1 rfl) g (ty := (.array (.array .int))) (by decide) rfl rfl hby rfl d12_146 (fun T1571 h1573 Y1572 W1574 F1575 => ?_)
  refine o_aloadN Y1572 hx hby d12_149 rfl rfl ?_
  refine o_aconstNull Y1572 hx hby d12_150  ?_
  have f1576 := f1562.wr W1574
  have f1577 := f1532.keep K1539 (ninS ne1487 nin0)
  have f1578 := f1577.other W1545 (Or.inl ne1487)
  have f1579 := own_sn f1578 W1560 (own_wl hw 101 rfl) (own_wl hw 17 rfl) (by decide) own_f9 own_f4
  have f1580 := own_sn f1579 W1574 (own_wl hw 101 rfl) (own_wl hw 19 rfl) (by decide) own_f9 own_f4
  refine p_putF Y1572 hx hZ hown (host := "") (Or.inl (own_w hw 100 rfl)) Via.refl f1580 f1576 (Or.inl (own_w hw 101 rfl)) (own_w hw 1 rfl) g (ty := (.array (.array .long))) (by decide) rfl rfl hby rfl d12_151 (fun T1581 h1583 Y1582 W1584 F1585 => ?_)
  refine o_aloadN Y1582 hx hby d12_154 rfl rfl ?_
  have f1586 := Fb_index.ext E1483
  have f1587 := f1586.other W1493 (Or.inl ne1487)
  have f1588 := f1587.other W1498 (Or.inl ne1487)
  have f1589 := f1588.other W1503 (Or.inl ne1487)
  have f1590 := f1589.ext E1508
  have f1591 := f1590.keep K1539 (ninS ne1487 nin0)
  have f1592 := f1591.other W1545 (Or.inl ne1487)
  have f1593 := own_sn f1592 W1560 (own_wf hw 44 rfl) (own_wl hw 17 rfl) (by decide) own_f7 own_f4
  have f1594 := own_sn f1593 W1574 (own_wf hw 44 rfl) (own_wl hw 19 rfl) (by decide) own_f7 own_f4
  have f1595 := own_sn f1594 W1584 (own_wf hw 44 rfl) (own_wl hw 101 rfl) (by decide) own_f7 own_f9
  refine p_getF Y1582 hx hZ hown (host := "") (Or.inl (own_w hw 43 rfl)) Via.refl f1595 hby rfl d12_155 (fun T1596 Y1597 => ?_)
  have f1598 := f1520.ext E1508
  have f1599 := f1598.keep K1539
  have f1600 := f1599.wr W1545
  have f1601 := f1600.wr W1560
  have f1602 := f1601.wr W1574
  have f1603 := f1602.wr W1584
  have f1604 := Fx_ids.ext E1483
  have f1605 := f1604.other W1493 (Or.inl ne1488)
  have f1606 := f1605.other W1498 (Or.inl ne1488)
  have f1607 := f1606.other W1503 (Or.inl ne1488)
  have f1608 := f1607.ext E1508
  have f1609 := f1608.keep K1539 (ninS ne1488 nin0)
  have f1610 := f1609.other W1545 (Or.inl ne1488)
  have f1611 := f1610.other W1560 (Or.inl nir)
  have f1612 := f1611.other W1574 (Or.inl nir)
  have f1613 := f1612.other W1584 (Or.inl nir)
  refine own_callV Y1597 hx hZ (y := (⟨"kombos/graph/IdIndex", "trimToSize", "()V"⟩ : MethodName)) (z := (⟨"kombos/graph/IdIndex", "trimToSize", "()V"⟩ : MethodName)) hown (own_w hw 106 rfl) (own_w hw 107 rfl) (notFace_of_selects (args := #[]) (mvT hZ (own_w hw 109 rfl))) (own_w hw 109 rfl) (own_w hw 108 rfl) (own_w hw 36 rfl) (own_w hw 110 rfl) (by decide) (a := ix) f1603 (argsL := []) (rest := []) (own_rm14 l Z a0 hw [] ix  h1583 n0  f1603 f1613) (W := 0) (by decide) (by decide) (by decide) (by decide) rfl (by rw [hml]; rfl) (lenOf own_pd8 rfl) rfl (by show 2 * 0 + _ ≤ _; exact Nat.le_of_eq rfl) (hb hby d12_158) (fun T1614 h1616 v1617 Y1615 q1618 => ?_)
  obtain ⟨rfl, rfl⟩ := q1618
  show own_Ends _ _ _ _ (T1614.setTop (mkF m 161 #[rv r0, iv 3, iv 0, rv b1485, rv b1510, .val .null, iv 0] []))
  refine o_aloadN Y1615 hx hby d12_161 rfl rfl ?_
  have f1619 := Fb_keys.ext E1483
  have f1620 := f1619.other W1493 (Or.inl ne1487)
  have f1621 := f1620.other W1498 (Or.inl ne1487)
  have f1622 := f1621.other W1503 (Or.inl ne1487)
  have f1623 := f1622.ext E1508
  have f1624 := f1623.keep K1539 (ninS ne1487 nin0)
  have f1625 := f1624.other W1545 (Or.inl ne1487)
  have f1626 := own_sn f1625 W1560 (own_wl hw 57 rfl) (own_wl hw 17 rfl) (by decide) own_f8 own_f4
  have f1627 := own_sn f1626 W1574 (own_wl hw 57 rfl) (own_wl hw 19 rfl) (by decide) own_f8 own_f4
  have f1628 := own_sn f1627 W1584 (own_wl hw 57 rfl) (own_wl hw 101 rfl) (by decide) own_f8 own_f9
  refine p_getF Y1615 hx hZ hown (host := "") (Or.inl (own_w hw 56 rfl)) Via.refl f1628 hby rfl d12_162 (fun T1629 Y1630 => ?_)
  refine o_ifnullYes Y1630 hx hby (pc' := 175) d12_165 rfl (by decide) (by decide) ?_
  refine own_new Y1630 hx hZ hown (own_w hw 111 rfl) (own_w hw 112 rfl) (own_w hw 113 rfl) rfl (hb hby d12_175) (by decide) (by decide) (fun T1631 h1633 b1637 eb1638 Y1632 E1634 X1635 D1636 => ?_)
  have f1639 := f1576.wr W1584
  have ne1640 : r0 ≠ b1637 := Nat.ne_of_lt (by rw [eb1638]; exact f1639.lt)
  have ne1641 : ix ≠ b1637 := Nat.ne_of_lt (by rw [eb1638]; exact f1603.lt)
  have f1642 := A1546.other W1560 (Ne.symm ne1487)
  have f1643 := f1642.other W1574 (Ne.symm ne1487)
  have f1644 := f1643.other W1584 (Ne.symm ne1487)
  have ne1645 : b1485 ≠ b1637 := Nat.ne_of_lt (by rw [eb1638]; exact f1644.lt)
  have f1646 := A1509.keep K1539 (ninS (Ne.symm ne1522) nin0)
  have f1647 := f1646.other W1545 (Ne.symm ne1522)
  have f1648 := f1647.other W1560 (Ne.symm ne1516)
  have f1649 := f1648.other W1574 (Ne.symm ne1516)
  have f1650 := f1649.other W1584 (Ne.symm ne1516)
  have ne1651 : b1510 ≠ b1637 := Nat.ne_of_lt (by rw [eb1638]; exact f1650.lt)
  have z1653 : n0 ≤ h1507.size := Nat.le_trans z1527 E1508.1
  have z1654 : n0 ≤ h1538.size := Nat.le_trans z1653 K1539.1
  have z1655 : n0 ≤ h1544.size := Nat.le_trans z1654 (Nat.le_of_eq W1545.size.symm)
  have z1656 : n0 ≤ h1559.size := Nat.le_trans z1655 (Nat.le_of_eq W1560.size.symm)
  have z1657 : n0 ≤ h1573.size := Nat.le_trans z1656 (Nat.le_of_eq W1574.size.symm)
  have z1658 : n0 ≤ h1583.size := Nat.le_trans z1657 (Nat.le_of_eq W1584.size.symm)
  have g1652 : n0 ≤ b1637 := by rw [eb1638]; exact z1658
  have F1659 : Fld Z h1633 b1637 "kombos/graph/Graph" "index" "Lkombos/graph/IdIndex;" .null := D1636 _ _ _ (.object "kombos/graph/IdIndex") (Or.inr (own_w hw 120 rfl)) (by decide)
  have F1660 : Fld Z h1633 b1637 "kombos/graph/Graph" "keys" "Lkombos/graph/KeyIndex;" .null := D1636 _ _ _ (.object "kombos/graph/KeyIndex") (Or.inr (own_w hw 123 rfl)) (by decide)
  have F1661 : Fld Z h1633 b1637 "kombos/graph/Graph" "directed" "Z" (.int 0) := D1636 _ _ _ .boolean (Or.inr (own_w hw 126 rfl)) (by decide)
  have F1662 : Fld Z h1633 b1637 "kombos/graph/Graph" "edgeCount" "I" (.int 0) := D1636 _ _ _ .int (Or.inr (own_w hw 129 rfl)) (by decide)
  have F1663 : Fld Z h1633 b1637 "kombos/graph/Graph" "edgeStart" "[I" .null := D1636 _ _ _ (.array .int) (Or.inr (own_w hw 131 rfl)) (by decide)
  have F1664 : Fld Z h1633 b1637 "kombos/graph/Graph" "edgeTarget" "[I" .null := D1636 _ _ _ (.array .int) (Or.inr (own_w hw 133 rfl)) (by decide)
  have F1665 : Fld Z h1633 b1637 "kombos/graph/Graph" "edgeWeight" "[J" .null := D1636 _ _ _ (.array .long) (Or.inr (own_w hw 135 rfl)) (by decide)
  have F1666 : Fld Z h1633 b1637 "kombos/graph/Graph" "decimal" "Z" (.int 0) := D1636 _ _ _ .boolean (Or.inr (own_w hw 139 rfl)) (by decide)
  have F1667 : Fld Z h1633 b1637 "kombos/graph/Graph" "vertexColumns" "Ljava/util/List;" .null := D1636 _ _ _ (.object "java/util/List") (Or.inr (own_w hw 142 rfl)) (by decide)
  have F1668 : Fld Z h1633 b1637 "kombos/graph/Graph" "edgeColumns" "Ljava/util/List;" .null := D1636 _ _ _ (.object "java/util/List") (Or.inr (own_w hw 145 rfl)) (by decide)
  show own_Ends _ _ _ _ (T1631.setTop (mkF m 178 #[rv r0, iv 3, iv 0, rv b1485, rv b1510, .val .null, iv 0] [(.ref b1637)]))
  refine o_dup Y1632 hx hby d12_178 rfl rfl ?_
  refine o_aloadN Y1632 hx hby d12_179 rfl rfl ?_
  refine o_aloadN Y1632 hx hby d12_180 rfl rfl ?_
  refine o_aload Y1632 hx hby d12_181 rfl rfl ?_
  refine o_aload Y1632 hx hby d12_183 rfl rfl ?_
  have f1669 := f1639.ext E1634
  have f1670 := f1595.ext E1634
  have f1671 := f1628.ext E1634
  have f1672 := Fb_directed.ext E1483
  have f1673 := f1672.other W1493 (Or.inl ne1487)
  have f1674 := f1673.other W1498 (Or.inl ne1487)
  have f1675 := f1674.other W1503 (Or.inl ne1487)
  have f1676 := f1675.ext E1508
  have f1677 := f1676.keep K1539 (ninS ne1487 nin0)
  have f1678 := f1677.other W1545 (Or.inl ne1487)
  have f1679 := own_sn f1678 W1560 (own_wf hw 31 rfl) (own_wl hw 17 rfl) (by decide) own_f6 own_f4
  have f1680 := own_sn f1679 W1574 (own_wf hw 31 rfl) (own_wl hw 19 rfl) (by decide) own_f6 own_f4
  have f1681 := own_sn f1680 W1584 (own_wf hw 31 rfl) (own_wl hw 101 rfl) (by decide) own_f6 own_f9
  have f1682 := f1681.ext E1634
  have f1683 := Fb_edgeCount.ext E1483
  have f1684 := f1683.other W1493 (Or.inl ne1487)
  have f1685 := f1684.other W1498 (Or.inl ne1487)
  have f1686 := f1685.other W1503 (Or.inl ne1487)
  have f1687 := f1686.ext E1508
  have f1688 := f1687.keep K1539 (ninS ne1487 nin0)
  have f1689 := f1688.other W1545 (Or.inl ne1487)
  have f1690 := own_sn f1689 W1560 (own_wl hw 98 rfl) (own_wl hw 17 rfl) (by decide) own_f1 own_f4
  have f1691 := own_sn f1690 W1574 (own_wl hw 98 rfl) (own_wl hw 19 rfl) (by decide) own_f1 own_f4
  have f1692 := own_sn f1691 W1584 (own_wl hw 98 rfl) (own_wl hw 101 rfl) (by decide) own_f1 own_f9
  have f1693 := f1692.ext E1634
  have f1694 := Fb_decimal.ext E1483
  have f1695 := f1694.other W1493 (Or.inl ne1487)
  have f1696 := f1695.other W1498 (Or.inl ne1487)
  have f1697 := f1696.other W1503 (Or.inl ne1487)
  have f1698 := f1697.ext E1508
  have f1699 := f1698.keep K1539 (ninS ne1487 nin0)
  have f1700 := f1699.other W1545 (Or.inl ne1487)
  have f1701 := own_sn f1700 W1560 (own_wl hw 137 rfl) (own_wl hw 17 rfl) (by decide) own_f6 own_f4
  have f1702 := own_sn f1701 W1574 (own_wl hw 137 rfl) (own_wl hw 19 rfl) (by decide) own_f6 own_f4
  have f1703 := own_sn f1702 W1584 (own_wl hw 137 rfl) (own_wl hw 101 rfl) (by decide) own_f6 own_f9
  have f1704 := f1703.ext E1634
  have f1705 := Fb_vertexColumns.ext E1483
  have f1706 := f1705.other W1493 (Or.inl ne1487)
  have f1707 := f1706.other W1498 (Or.inl ne1487)
  have f1708 := f1707.other W1503 (Or.inl ne1487)
  have f1709 := f1708.ext E1508
  have f1710 := f1709.keep K1539 (ninS ne1487 nin0)
  have f1711 := f1710.other W1545 (Or.inl ne1487)
  have f1712 := own_sn f1711 W1560 (own_wl hw 27 rfl) (own_wl hw 17 rfl) (by decide) own_f5 own_f4
  have f1713 := own_sn f1712 W1574 (own_wl hw 27 rfl) (own_wl hw 19 rfl) (by decide) own_f5 own_f4
  have f1714 := own_sn f1713 W1584 (own_wl hw 27 rfl) (own_wl hw 101 rfl) (by decide) own_f5 own_f9
  have f1715 := f1714.ext E1634
  have f1716 := Fb_edgeColumns.ext E1483
  have f1717 := f1716.other W1493 (Or.inl ne1487)
  have f1718 := f1717.other W1498 (Or.inl ne1487)
  have f1719 := f1718.other W1503 (Or.inl ne1487)
  have f1720 := f1719.ext E1508
  have f1721 := f1720.keep K1539 (ninS ne1487 nin0)
  have f1722 := f1721.other W1545 (Or.inl ne1487)
  have f1723 := own_sn f1722 W1560 (own_wl hw 29 rfl) (own_wl hw 17 rfl) (by decide) own_f5 own_f4
  have f1724 := own_sn f1723 W1574 (own_wl hw 29 rfl) (own_wl hw 19 rfl) (by decide) own_f5 own_f4
  have f1725 := own_sn f1724 W1584 (own_wl hw 29 rfl) (own_wl hw 101 rfl) (by decide) own_f5 own_f9
  have f1726 := f1725.ext E1634
  refine own_callNN Y1632 hx hZ (y := (⟨"kombos/graph/Graph", "<init>", "(Lkombos/graph/Graph$Builder;[I[I[J)V"⟩ : MethodName)) rfl hown (own_w hw 114 rfl) (own_w hw 115 rfl) (own_w hw 113 rfl) (own_w hw 116 rfl) (by decide) (a := b1637) (argsL := [(.ref r0), (.ref b1485), (.ref b1510), .null]) (rest := [(.ref b1637)]) (own_rm15 l Z a0 hw [] b1637 r0 b1485 b1510 ix el (0 : Int32) h1633 n0  X1635 F1659 F1660 F1661 F1662 F1663 F1664 F1665 F1666 F1667 F1668 f1669 f1670 f1671 f1682 f1693 f1704 f1715 f1726 g1652 ne1640) (W := 1) (by decide) (by decide) (by decide) (by decide) rfl (by rw [hml]; rfl) (lenOf own_pd9 rfl) rfl (by show 2 * 0 + _ ≤ _; exact Nat.le_of_eq rfl) (hb hby d12_185) (fun T1727 h1729 v1730 Y1728 q1731 => ?_)
  obtain ⟨rfl, K1732, F1733, F1734, F1735, F1736, F1737⟩ := q1731
  show own_Ends _ _ _ _ (T1727.setTop (mkF m 188 #[rv r0, iv 3, iv 0, rv b1485, rv b1510, .val .null, iv 0] [(.ref b1637)]))
  have z1738 : n0 ≤ h1633.size := Nat.le_trans z1658 E1634.1
  have z1739 : n0 ≤ h1729.size := Nat.le_trans z1738 K1732.1
  have f1740 := f1644.ext E1634
  have f1741 := f1740.keep K1732 (ninS ne1645 nin0)
  have f1742 := f1650.ext E1634
  have f1743 := f1742.keep K1732 (ninS ne1651 nin0)
  have f1744 := f1603.ext E1634
  have f1745 := f1744.keep K1732
  have f1746 := f1613.ext E1634
  have f1747 := f1746.keep K1732 (ninS ne1641 nin0)
  have f1748 := Fx_size.ext E1483
  have f1749 := f1748.other W1493 (Or.inl ne1488)
  have f1750 := f1749.other W1498 (Or.inl ne1488)
  have f1751 := f1750.other W1503 (Or.inl ne1488)
  have f1752 := f1751.ext E1508
  have f1753 := f1752.keep K1539 (ninS ne1488 nin0)
  have f1754 := f1753.other W1545 (Or.inl ne1488)
  have f1755 := f1754.other W1560 (Or.inl nir)
  have f1756 := f1755.other W1574 (Or.inl nir)
  have f1757 := f1756.other W1584 (Or.inl nir)
  have f1758 := f1757.ext E1634
  have f1759 := f1758.keep K1732 (ninS ne1641 nin0)
  refine own_retA Y1728 hx hlk hret rfl rfl rfl (hb hby d12_188) (by decide) (by decide) ?_
  exact ⟨_, _, _, rfl, z1739, F1733, F1734, F1735, F1736, F1737, f1741, f1743, f1745, f1747, f1759⟩
theorem own_pd10 : parseMethodDescriptor "([II)V" = some ⟨[(.array .int), .int], none⟩ := by decide +kernel
theorem own_pd11 : parseMethodDescriptor "([I[I[JI)V" = some ⟨[(.array .int), (.array .int), (.array .long), .int], none⟩ := by decide +kernel
theorem d12_35 : decode bc12 35 = .ok (.aload_n 0, 1) := by decide +kernel
theorem d12_36 : decode bc12 36 = .ok (.aload_n 3, 1) := by decide +kernel
theorem d12_37 : decode bc12 37 = .ok (.iload 4, 2) := by decide +kernel
theorem d12_39 : decode bc12 39 = .ok (.invokevirtual 201, 3) := by decide +kernel
theorem d12_42 : decode bc12 42 = .ok (.iinc 4 1, 3) := by decide +kernel
theorem d12_45 : decode bc12 45 = .ok (.goto (-16), 3) := by decide +kernel
theorem d12_110 : decode bc12 110 = .ok (.aload_n 0, 1) := by decide +kernel
theorem d12_111 : decode bc12 111 = .ok (.aload_n 3, 1) := by decide +kernel
theorem d12_112 : decode bc12 112 = .ok (.aload 4, 2) := by decide +kernel
theorem d12_114 : decode bc12 114 = .ok (.aload 5, 2) := by decide +kernel
theorem d12_116 : decode bc12 116 = .ok (.iload 6, 2) := by decide +kernel
theorem d12_118 : decode bc12 118 = .ok (.invokevirtual 205, 3) := by decide +kernel
theorem d12_121 : decode bc12 121 = .ok (.iinc 6 1, 3) := by decide +kernel
theorem d12_124 : decode bc12 124 = .ok (.goto (-20), 3) := by decide +kernel
theorem own_ef_own_rm12_1 (m : MethodId) (r0 : Addr) : entryFrame m #[(.ref r0)] 7 = mkF m 0 #[rv r0, .unset, .unset, .unset, .unset, .unset, .unset] [] := by first | (simp [entryFrame, mkF, argsToLocals, Value.category]; done) | rfl
def own_Q_own_rm12_1 (Z : State) (ix : Addr) (e0 e1 e2 : Int32) (GG : List Int32) (h0 : Heap) (n0 : Nat) (v : Option Value) (h : Heap) : Prop := ∃ gr es tg : Addr, v = some (.ref gr) ∧ n0 ≤ h.size ∧ Exa Z h gr "kombos/graph/Graph" ∧ Fld Z h gr "kombos/graph/Graph" "index" "Lkombos/graph/IdIndex;" (.ref ix) ∧ Fld Z h gr "kombos/graph/Graph" "directed" "Z" (.int 0) ∧ Fld Z h gr "kombos/graph/Graph" "edgeStart" "[I" (.ref es) ∧ Fld Z h gr "kombos/graph/Graph" "edgeTarget" "[I" (.ref tg) ∧ own_A Z h es .int [(.int 0), (.int e0), (.int e1), (.int e2)] ∧ own_A Z h tg .int (GG.map Value.int) ∧ Exa Z h ix "kombos/graph/IdIndex" ∧ Fld Z h ix "kombos/graph/IdIndex" "ids" "[J" .null ∧ Fld Z h ix "kombos/graph/IdIndex" "size" "I" (.int 3)
set_option maxRecDepth 65536 in
set_option maxHeartbeats 40000000 in
theorem own_rm12_1 (l : Launch) (Z : State) (a0 : Array Value) (hw : ∀ d ∈ tables_1, d.before a0 Z = true) (ws : List Jvm.Cond) (r0 : Addr) (sa ta ix el bs bt : Addr) (S T ss tt GG : List Int32) (kk c0 c1 c2 c3 e0 e1 e2 e3 : Int32) (nn mm : Nat) (h0 : Heap) (n0 : Nat) (Z0 : n0 ≤ h0.size) (Eb : Exa Z h0 r0 "kombos/graph/Graph$Builder") (Fb_sources : Fld Z h0 r0 "kombos/graph/Graph$Builder" "sources" "[[I" (.ref sa)) (Fb_targets : Fld Z h0 r0 "kombos/graph/Graph$Builder" "targets" "[[I" (.ref ta)) (Fb_vertexColumns : Fld Z h0 r0 "kombos/graph/Graph$Builder" "vertexColumns" "Ljava/util/List;" (.ref el)) (Fb_edgeColumns : Fld Z h0 r0 "kombos/graph/Graph$Builder" "edgeColumns" "Ljava/util/List;" (.ref el)) (Fb_directed : Fld Z h0 r0 "kombos/graph/Graph$Builder" "directed" "Z" (.int 0)) (Fb_maxVertices : Fld Z h0 r0 "kombos/graph/Graph$Builder" "maxVertices" "I" (.int 536870912)) (Fb_index : Fld Z h0 r0 "kombos/graph/Graph$Builder" "index" "Lkombos/graph/IdIndex;" (.ref ix)) (Fb_maxEdges : Fld Z h0 r0 "kombos/graph/Graph$Builder" "maxEdges" "I" (.int 1073741819)) (Fb_keys : Fld Z h0 r0 "kombos/graph/Graph$Builder" "keys" "Lkombos/graph/KeyIndex;" .null) (Fb_edgeCount : Fld Z h0 r0 "kombos/graph/Graph$Builder" "edgeCount" "I" (.int kk)) (Fb_weights : Fld Z h0 r0 "kombos/graph/Graph$Builder" "weights" "[[J" .null) (Fb_decimal : Fld Z h0 r0 "kombos/graph/Graph$Builder" "decimal" "Z" (.int 0)) (Ex : Exa Z h0 ix "kombos/graph/IdIndex") (Fx_ids : Fld Z h0 ix "kombos/graph/IdIndex" "ids" "[J" .null) (Fx_size : Fld Z h0 ix "kombos/graph/IdIndex" "size" "I" (.int 3)) (nsr : sa ≠ r0) (ntr : ta ≠ r0) (nir : ix ≠ r0) (g : n0 ≤ r0) (As : own_A Z h0 sa (.array .int) ((List.replicate 16 .null).set 0 (.ref bs))) (At_ : own_A Z h0 ta (.array .int) ((List.replicate 16 .null).set 0 (.ref bt))) (Ab : own_A Z h0 bs .int (S.map Value.int)) (Ac : own_A Z h0 bt .int (T.map Value.int)) (lS : S.length = 8192) (lT : T.length = 8192) (hS : ∀ i, i < nn → own_g S i = own_g ss i) (hT : ∀ i, i < nn → own_g T i = own_g tt i) (hkk : kk.toInt = (nn : Int)) (hn1 : 1 ≤ nn) (hn3 : nn ≤ 3) (hcnt : own_cnt ss tt nn 0 [0, 0, 0, 0] = some [c0, c1, c2, c3]) (hm : (c3 + (c2 + (c1 + c0))).toInt = (mm : Int)) (hm6 : mm ≤ 6) (hplc : own_plc ss tt nn 0 [c0, (c1 + c0), (c2 + (c1 + c0)), (c3 + (c2 + (c1 + c0)))] (List.replicate mm 0) = some ([e0, e1, e2, e3], GG)) (nbsr0 : bs ≠ r0) (nbtr0 : bt ≠ r0) :
    own_Con l Z (⟨"kombos/graph/Graph$Builder", "build", "()Lkombos/graph/Graph;"⟩ : MethodName) prog_45_method_18_code 7 (some (.object "kombos/graph/Graph")) ws ({ frames := 3, cells := 3, slots := 20, locals := 64 } : Room) #[(.ref r0)] h0 n0 (own_Q_own_rm12_1 Z ix e0 e1 e2 GG h0 n0) := by
  refine own_body (plainFor_of_name own_pn1) ?_
  intro p e s m below meth c T0 hx hZ hby hml hown hnm hret hlk Y0
  replace hown : s.vm.findClass "kombos/graph/Graph$Builder" = some m.cls := hown
  replace hnm : meth.name = "build" := hnm
  rw [own_ef_own_rm12_1 m r0]
  show own_Ends _ _ _ _ (T0.setTop (mkF m 0 #[rv r0, .unset, .unset, .unset, .unset, .unset, .unset] []))
  have hk3 : kk.toInt ≤ 3 := by omega
  refine o_aloadN Y0 hx hby d12_0 rfl rfl ?_
  refine p_getF Y0 hx hZ hown (host := "") (Or.inl (own_w hw 43 rfl)) Via.refl Fb_index hby rfl d12_1 (fun T1760 Y1761 => ?_)
  refine own_callV Y1761 hx hZ (y := (⟨"kombos/graph/IdIndex", "size", "()I"⟩ : MethodName)) (z := (⟨"kombos/graph/IdIndex", "size", "()I"⟩ : MethodName)) hown (own_w hw 92 rfl) (own_w hw 93 rfl) (notFace_of_selects (args := #[]) (mvT hZ (own_w hw 95 rfl))) (own_w hw 95 rfl) (own_w hw 94 rfl) (own_w hw 36 rfl) (own_w hw 96 rfl) (by decide) (a := ix) Ex (argsL := []) (rest := []) (own_rm13 l Z a0 hw [] ix  h0 n0  Ex Fx_size) (W := 0) (by decide) (by decide) (by decide) (by decide) rfl (by rw [hml]; rfl) (lenOf own_pd7 rfl) rfl (by show 2 * 0 + _ ≤ _; exact Nat.le_of_eq rfl) (hb hby d12_4) (fun T1762 h1764 v1765 Y1763 q1766 => ?_)
  obtain ⟨rfl, rfl⟩ := q1766
  show own_Ends _ _ _ _ (T1762.setTop (mkF m 7 #[rv r0, .unset, .unset, .unset, .unset, .unset, .unset] [(.int 3)]))
  refine o_istoreN Y1763 hx hby d12_7 rfl (l' := #[rv r0, iv 3, .unset, .unset, .unset, .unset, .unset]) rfl ?_
  refine o_aloadN Y1763 hx hby d12_8 rfl rfl ?_
  refine p_getF Y1763 hx hZ hown (host := "") (Or.inl (own_w hw 97 rfl)) Via.refl Fb_edgeCount hby rfl d12_9 (fun T1767 Y1768 => ?_)
  refine o_sipush Y1768 hx hby d12_12 (x := 8191) rfl ?_
  refine o_iadd Y1768 hx hby d12_15 rfl rfl ?_
  refine o_bipush Y1768 hx hby d12_16 (x := 13) rfl ?_
  refine own_st (fun t_ => XS.iushr (own_here Y1768) hx rfl (hb hby d12_18) rfl) ?_
  show own_Ends _ _ _ _ (T1767.setTop (mkF m 19 #[rv r0, iv 3, .unset, .unset, .unset, .unset, .unset] [(.int (((kk + (8191 : Int32)).toUInt32 >>> ((13 : Int32) &&& 31).toUInt32).toInt32))]))
  have hbl : (((kk + (8191 : Int32)).toUInt32 >>> ((13 : Int32) &&& 31).toUInt32).toInt32) = (1 : Int32) := by
    have e1 : (8191 : Int32).toInt = 8191 := rfl
    have a1 := c_iadd kk 8191; have a2 := rng32 (kk + 8191); have a3 := c_iushr (kk + 8191) 13 13 (by decide) (by decide)
    have p : ((2 ^ 13 : Nat) : Int) = 8192 := by decide
    rw [p] at a3; rw [own_eq, a3]; show _ = (1 : Int); omega
  rw [hbl]
  show own_Ends _ _ _ _ (T1767.setTop (mkF m 19 #[rv r0, iv 3, .unset, .unset, .unset, .unset, .unset] [(.int 1)]))
  refine o_istoreN Y1768 hx hby d12_19 rfl (l' := #[rv r0, iv 3, iv 1, .unset, .unset, .unset, .unset]) rfl ?_
  refine o_iloadN Y1768 hx hby d12_20 rfl ?_
  refine o_iconst Y1768 hx hby d12_21 (x := 1) rfl ?_
  refine o_iadd Y1768 hx hby d12_22 rfl (z := 4) rfl ?_
  refine own_newP Y1768 hx hZ (own_w hw 99 rfl) rfl (hb hby d12_23) rfl (by decide) (nz := 4) (cap := 4) (by decide) (by decide) (by decide) (by decide) (by decide) (ty := .int) rfl (fun T1769 h1771 b1774 eb1775 Y1770 E1772 A1773 => ?_)
  have ne1776 : r0 ≠ b1774 := Nat.ne_of_lt (by rw [eb1775]; exact Eb.lt)
  have ne1777 : ix ≠ b1774 := Nat.ne_of_lt (by rw [eb1775]; exact Ex.lt)
  have ne1778 : sa ≠ b1774 := Nat.ne_of_lt (by rw [eb1775]; exact As.lt)
  have ne1779 : ta ≠ b1774 := Nat.ne_of_lt (by rw [eb1775]; exact At_.lt)
  have ne1780 : bs ≠ b1774 := Nat.ne_of_lt (by rw [eb1775]; exact Ab.lt)
  have ne1781 : bt ≠ b1774 := Nat.ne_of_lt (by rw [eb1775]; exact Ac.lt)
  have g1782 : n0 ≤ b1774 := by rw [eb1775]; exact Z0
  replace A1773 : own_A Z h1771 b1774 .int [(.int 0), (.int 0), (.int 0), (.int 0)] := A1773
  show own_Ends _ _ _ _ (T1769.setTop (mkF m 25 #[rv r0, iv 3, iv 1, .unset, .unset, .unset, .unset] [(.ref b1774)]))
  refine o_astoreN Y1770 hx hby d12_25 rfl rfl (l' := #[rv r0, iv 3, iv 1, rv b1774, .unset, .unset, .unset]) rfl ?_
  refine o_iconst Y1770 hx hby d12_26 (x := 0) rfl ?_
  refine o_istore Y1770 hx hby d12_27 rfl (l' := #[rv r0, iv 3, iv 1, rv b1774, iv 0, .unset, .unset]) rfl ?_
  refine o_iload Y1770 hx hby d12_29 rfl ?_
  refine o_iloadN Y1770 hx hby d12_31 rfl ?_
  refine o_icmpNo Y1770 hx hby d12_32 rfl (XT.ii_ge_f (by decide)) ?_
  refine o_aloadN Y1770 hx hby d12_35 rfl rfl ?_
  refine o_aloadN Y1770 hx hby d12_36 rfl rfl ?_
  refine o_iload Y1770 hx hby d12_37 rfl ?_
  have f1783 := Eb.ext E1772
  have f1784 := Fb_sources.ext E1772
  have f1785 := Fb_targets.ext E1772
  have f1786 := Fb_directed.ext E1772
  have f1787 := Fb_edgeCount.ext E1772
  have f1788 := Fb_weights.ext E1772
  have f1789 := As.ext E1772
  have f1790 := At_.ext E1772
  have f1791 := Ab.ext E1772
  have f1792 := Ac.ext E1772
  have z1793 : n0 ≤ h1771.size := Nat.le_trans Z0 E1772.1
  refine own_callP Y1770 hx hZ (y := (⟨"kombos/graph/Graph$Builder", "countEnds", "([II)V"⟩ : MethodName)) hown (own_w hw 265 rfl) (own_w hw 266 rfl) (own_w hw 1 rfl) (own_w hw 267 rfl) (own_w hw 2 rfl) (own_w hw 268 rfl) (by decide) (a := r0) f1783 (argsL := [(.ref b1774), (.int 0)]) (rest := []) (own_rm32 l Z a0 hw [] r0 b1774 sa ta bs bt S T ss tt kk nn [0, 0, 0, 0] [c0, c1, c2, c3] h1771 n0 z1793 f1783 f1784 f1785 f1786 f1787 f1788 f1789 f1790 f1791 f1792 lS lT hS hT hkk hn3 A1773 hcnt g1782 ne1776 ne1780 ne1781 hk3) (W := 0) (by decide) (by decide) (by decide) (by decide) rfl (by rw [hml]; rfl) (lenOf own_pd10 rfl) rfl (by show 2 * 0 + _ ≤ _; exact Nat.le_of_eq rfl) (hb hby d12_39) (fun T1794 h1796 v1797 Y1795 q1798 => ?_)
  obtain ⟨rfl, K1799, A1800⟩ := q1798
  replace A1800 : own_A Z h1796 b1774 .int [(.int c0), (.int c1), (.int c2), (.int c3)] := A1800
  show own_Ends _ _ _ _ (T1794.setTop (mkF m 42 #[rv r0, iv 3, iv 1, rv b1774, iv 0, .unset, .unset] []))
  refine o_iinc Y1795 hx hby d12_42 rfl (l' := #[rv r0, iv 3, iv 1, rv b1774, iv 1, .unset, .unset]) rfl ?_
  refine o_goto Y1795 hx hby (pc' := 29) d12_45 (by decide) (by decide) ?_
  refine o_iload Y1795 hx hby d12_29 rfl ?_
  refine o_iloadN Y1795 hx hby d12_31 rfl ?_
  refine o_icmpYes Y1795 hx hby (pc' := 48) d12_32 rfl (XT.ii_ge_t (by decide)) (by decide) (by decide) ?_
  refine o_iconst Y1795 hx hby d12_48 (x := 0) rfl ?_
  refine o_istore Y1795 hx hby d12_49 rfl (l' := #[rv r0, iv 3, iv 1, rv b1774, iv 0, .unset, .unset]) rfl ?_
  refine o_iload Y1795 hx hby d12_51 rfl ?_
  refine o_iloadN Y1795 hx hby d12_53 rfl ?_
  refine o_icmpNo Y1795 hx hby d12_54 rfl (XT.ii_ge_f (by decide)) ?_
  refine o_aloadN Y1795 hx hby d12_57 rfl rfl ?_
  refine o_iload Y1795 hx hby d12_58 rfl ?_
  refine o_iconst Y1795 hx hby d12_60 (x := 1) rfl ?_
  refine o_iadd Y1795 hx hby d12_61 rfl (z := 1) rfl ?_
  refine o_dup2 Y1795 hx hby d12_62 rfl rfl rfl ?_
  refine p_ldI Y1795 hx hZ A1800 (i := 1) (by decide) (by decide) (Nat.le_of_ble_eq_true rfl) (v := (.int c1)) rfl hby rfl d12_63 ?_
  refine o_aloadN Y1795 hx hby d12_64 rfl rfl ?_
  refine o_iload Y1795 hx hby d12_65 rfl ?_
  refine p_ldI Y1795 hx hZ A1800 (i := 0) (by decide) (by decide) (Nat.le_of_ble_eq_true rfl) (v := (.int c0)) rfl hby rfl d12_67 ?_
  refine o_iadd Y1795 hx hby d12_68 rfl rfl ?_
  refine p_stI Y1795 hx hZ A1800 g1782 (i := 1) (by decide) (by decide) (Nat.le_of_ble_eq_true rfl) hby rfl d12_69 (fun T1801 h1803 Y1802 W1804 A1805 => ?_)
  replace A1805 : own_A Z h1803 b1774 .int [(.int c0), (.int (c1 + c0)), (.int c2), (.int c3)] := A1805
  refine o_iinc Y1802 hx hby d12_70 rfl (l' := #[rv r0, iv 3, iv 1, rv b1774, iv 1, .unset, .unset]) rfl ?_
  refine o_goto Y1802 hx hby (pc' := 51) d12_73 (by decide) (by decide) ?_
  refine o_iload Y1802 hx hby d12_51 rfl ?_
  refine o_iloadN Y1802 hx hby d12_53 rfl ?_
  refine o_icmpNo Y1802 hx hby d12_54 rfl (XT.ii_ge_f (by decide)) ?_
  refine o_aloadN Y1802 hx hby d12_57 rfl rfl ?_
  refine o_iload Y1802 hx hby d12_58 rfl ?_
  refine o_iconst Y1802 hx hby d12_60 (x := 1) rfl ?_
  refine o_iadd Y1802 hx hby d12_61 rfl (z := 2) rfl ?_
  refine o_dup2 Y1802 hx hby d12_62 rfl rfl rfl ?_
  refine p_ldI Y1802 hx hZ A1805 (i := 2) (by decide) (by decide) (Nat.le_of_ble_eq_true rfl) (v := (.int c2)) rfl hby rfl d12_63 ?_
  refine o_aloadN Y1802 hx hby d12_64 rfl rfl ?_
  refine o_iload Y1802 hx hby d12_65 rfl ?_
  refine p_ldI Y1802 hx hZ A1805 (i := 1) (by decide) (by decide) (Nat.le_of_ble_eq_true rfl) (v := (.int (c1 + c0))) rfl hby rfl d12_67 ?_
  refine o_iadd Y1802 hx hby d12_68 rfl rfl ?_
  refine p_stI Y1802 hx hZ A1805 g1782 (i := 2) (by decide) (by decide) (Nat.le_of_ble_eq_true rfl) hby rfl d12_69 (fun T1806 h1808 Y1807 W1809 A1810 => ?_)
  replace A1810 : own_A Z h1808 b1774 .int [(.int c0), (.int (c1 + c0)), (.int (c2 + (c1 + c0))), (.int c3)] := A1810
  refine o_iinc Y1807 hx hby d12_70 rfl (l' := #[rv r0, iv 3, iv 1, rv b1774, iv 2, .unset, .unset]) rfl ?_
  refine o_goto Y1807 hx hby (pc' := 51) d12_73 (by decide) (by decide) ?_
  refine o_iload Y1807 hx hby d12_51 rfl ?_
  refine o_iloadN Y1807 hx hby d12_53 rfl ?_
  refine o_icmpNo Y1807 hx hby d12_54 rfl (XT.ii_ge_f (by decide)) ?_
  refine o_aloadN Y1807 hx hby d12_57 rfl rfl ?_
  refine o_iload Y1807 hx hby d12_58 rfl ?_
  refine o_iconst Y1807 hx hby d12_60 (x := 1) rfl ?_
  refine o_iadd Y1807 hx hby d12_61 rfl (z := 3) rfl ?_
  refine o_dup2 Y1807 hx hby d12_62 rfl rfl rfl ?_
  refine p_ldI Y1807 hx hZ A1810 (i := 3) (by decide) (by decide) (Nat.le_of_ble_eq_true rfl) (v := (.int c3)) rfl hby rfl d12_63 ?_
  refine o_aloadN Y1807 hx hby d12_64 rfl rfl ?_
  refine o_iload Y1807 hx hby d12_65 rfl ?_
  refine p_ldI Y1807 hx hZ A1810 (i := 2) (by decide) (by decide) (Nat.le_of_ble_eq_true rfl) (v := (.int (c2 + (c1 + c0)))) rfl hby rfl d12_67 ?_
  refine o_iadd Y1807 hx hby d12_68 rfl rfl ?_
  refine p_stI Y1807 hx hZ A1810 g1782 (i := 3) (by decide) (by decide) (Nat.le_of_ble_eq_true rfl) hby rfl d12_69 (fun T1811 h1813 Y1812 W1814 A1815 => ?_)
  replace A1815 : own_A Z h1813 b1774 .int [(.int c0), (.int (c1 + c0)), (.int (c2 + (c1 + c0))), (.int (c3 + (c2 + (c1 + c0))))] := A1815
  refine o_iinc Y1812 hx hby d12_70 rfl (l' := #[rv r0, iv 3, iv 1, rv b1774, iv 3, .unset, .unset]) rfl ?_
  refine o_goto Y1812 hx hby (pc' := 51) d12_73 (by decide) (by decide) ?_
  refine o_iload Y1812 hx hby d12_51 rfl ?_
  refine o_iloadN Y1812 hx hby d12_53 rfl ?_
  refine o_icmpYes Y1812 hx hby (pc' := 76) d12_54 rfl (XT.ii_ge_t (by decide)) (by decide) (by decide) ?_
  refine o_aloadN Y1812 hx hby d12_76 rfl rfl ?_
  refine o_iloadN Y1812 hx hby d12_77 rfl ?_
  refine p_ldI Y1812 hx hZ A1815 (i := 3) (by decide) (by decide) (Nat.le_of_ble_eq_true rfl) (v := (.int (c3 + (c2 + (c1 + c0))))) rfl hby rfl d12_78 ?_
  refine own_newP Y1812 hx hZ (own_w hw 99 rfl) rfl (hb hby d12_79) rfl (own_nat hm).1 (nz := mm) (cap := 6) (own_nat hm).2 hm6 (by decide) (by decide) (by decide) (ty := .int) rfl (fun T1816 h1818 b1821 eb1822 Y1817 E1819 A1820 => ?_)
  have f1823 := f1783.keep K1799
  have f1824 := f1823.wr W1804
  have f1825 := f1824.wr W1809
  have f1826 := f1825.wr W1814
  have ne1827 : r0 ≠ b1821 := Nat.ne_of_lt (by rw [eb1822]; exact f1826.lt)
  have f1828 := Ex.ext E1772
  have f1829 := f1828.keep K1799
  have f1830 := f1829.wr W1804
  have f1831 := f1830.wr W1809
  have f1832 := f1831.wr W1814
  have ne1833 : ix ≠ b1821 := Nat.ne_of_lt (by rw [eb1822]; exact f1832.lt)
  have f1834 := f1789.keep K1799 (ninS ne1778 nin0)
  have f1835 := f1834.other W1804 ne1778
  have f1836 := f1835.other W1809 ne1778
  have f1837 := f1836.other W1814 ne1778
  have ne1838 : sa ≠ b1821 := Nat.ne_of_lt (by rw [eb1822]; exact f1837.lt)
  have f1839 := f1790.keep K1799 (ninS ne1779 nin0)
  have f1840 := f1839.other W1804 ne1779
  have f1841 := f1840.other W1809 ne1779
  have f1842 := f1841.other W1814 ne1779
  have ne1843 : ta ≠ b1821 := Nat.ne_of_lt (by rw [eb1822]; exact f1842.lt)
  have f1844 := f1791.keep K1799 (ninS ne1780 nin0)
  have f1845 := f1844.other W1804 ne1780
  have f1846 := f1845.other W1809 ne1780
  have f1847 := f1846.other W1814 ne1780
  have ne1848 : bs ≠ b1821 := Nat.ne_of_lt (by rw [eb1822]; exact f1847.lt)
  have f1849 := f1792.keep K1799 (ninS ne1781 nin0)
  have f1850 := f1849.other W1804 ne1781
  have f1851 := f1850.other W1809 ne1781
  have f1852 := f1851.other W1814 ne1781
  have ne1853 : bt ≠ b1821 := Nat.ne_of_lt (by rw [eb1822]; exact f1852.lt)
  have ne1854 : b1774 ≠ b1821 := Nat.ne_of_lt (by rw [eb1822]; exact A1815.lt)
  have z1856 : n0 ≤ h1796.size := Nat.le_trans z1793 K1799.1
  have z1857 : n0 ≤ h1803.size := Nat.le_trans z1856 (Nat.le_of_eq W1804.size.symm)
  have z1858 : n0 ≤ h1808.size := Nat.le_trans z1857 (Nat.le_of_eq W1809.size.symm)
  have z1859 : n0 ≤ h1813.size := Nat.le_trans z1858 (Nat.le_of_eq W1814.size.symm)
  have g1855 : n0 ≤ b1821 := by rw [eb1822]; exact z1859
  show own_Ends _ _ _ _ (T1816.setTop (mkF m 81 #[rv r0, iv 3, iv 1, rv b1774, iv 3, .unset, .unset] [(.ref b1821)]))
  refine o_astore Y1817 hx hby d12_81 rfl rfl (l' := #[rv r0, iv 3, iv 1, rv b1774, rv b1821, .unset, .unset]) rfl ?_
  refine o_aloadN Y1817 hx hby d12_83 rfl rfl ?_
  have f1860 := f1788.keep K1799 (ninS ne1776 nin0)
  have f1861 := f1860.other W1804 (Or.inl ne1776)
  have f1862 := f1861.other W1809 (Or.inl ne1776)
  have f1863 := f1862.other W1814 (Or.inl ne1776)
  have f1864 := f1863.ext E1819
  refine p_getF Y1817 hx hZ hown (host := "") (Or.inl (own_w hw 100 rfl)) Via.refl f1864 hby rfl d12_84 (fun T1865 Y1866 => ?_)
  refine o_ifnonnullNo Y1866 hx hby d12_87 rfl ?_
  refine o_aconstNull Y1866 hx hby d12_90  ?_
  refine o_goto Y1866 hx hby (pc' := 99) d12_91 (by decide) (by decide) ?_
  refine o_astore Y1866 hx hby d12_99 rfl rfl (l' := #[rv r0, iv 3, iv 1, rv b1774, rv b1821, .val .null, .unset]) rfl ?_
  refine o_iconst Y1866 hx hby d12_101 (x := 0) rfl ?_
  refine o_istore Y1866 hx hby d12_102 rfl (l' := #[rv r0, iv 3, iv 1, rv b1774, rv b1821, .val .null, iv 0]) rfl ?_
  refine o_iload Y1866 hx hby d12_104 rfl ?_
  refine o_iloadN Y1866 hx hby d12_106 rfl ?_
  refine o_icmpNo Y1866 hx hby d12_107 rfl (XT.ii_ge_f (by decide)) ?_
  refine o_aloadN Y1866 hx hby d12_110 rfl rfl ?_
  refine o_aloadN Y1866 hx hby d12_111 rfl rfl ?_
  refine o_aload Y1866 hx hby d12_112 rfl rfl ?_
  refine o_aload Y1866 hx hby d12_114 rfl rfl ?_
  refine o_iload Y1866 hx hby d12_116 rfl ?_
  have f1867 := f1826.ext E1819
  have f1868 := f1784.keep K1799 (ninS ne1776 nin0)
  have f1869 := f1868.other W1804 (Or.inl ne1776)
  have f1870 := f1869.other W1809 (Or.inl ne1776)
  have f1871 := f1870.other W1814 (Or.inl ne1776)
  have f1872 := f1871.ext E1819
  have f1873 := f1785.keep K1799 (ninS ne1776 nin0)
  have f1874 := f1873.other W1804 (Or.inl ne1776)
  have f1875 := f1874.other W1809 (Or.inl ne1776)
  have f1876 := f1875.other W1814 (Or.inl ne1776)
  have f1877 := f1876.ext E1819
  have f1878 := f1786.keep K1799 (ninS ne1776 nin0)
  have f1879 := f1878.other W1804 (Or.inl ne1776)
  have f1880 := f1879.other W1809 (Or.inl ne1776)
  have f1881 := f1880.other W1814 (Or.inl ne1776)
  have f1882 := f1881.ext E1819
  have f1883 := f1787.keep K1799 (ninS ne1776 nin0)
  have f1884 := f1883.other W1804 (Or.inl ne1776)
  have f1885 := f1884.other W1809 (Or.inl ne1776)
  have f1886 := f1885.other W1814 (Or.inl ne1776)
  have f1887 := f1886.ext E1819
  have f1888 := f1837.ext E1819
  have f1889 := f1842.ext E1819
  have f1890 := f1847.ext E1819
  have f1891 := f1852.ext E1819
  have f1892 := A1815.ext E1819
  have z1893 : n0 ≤ h1818.size := Nat.le_trans z1859 E1819.1
  refine own_callP Y1866 hx hZ (y := (⟨"kombos/graph/Graph$Builder", "place", "([I[I[JI)V"⟩ : MethodName)) hown (own_w hw 274 rfl) (own_w hw 275 rfl) (own_w hw 1 rfl) (own_w hw 276 rfl) (own_w hw 2 rfl) (own_w hw 277 rfl) (by decide) (a := r0) f1867 (argsL := [(.ref b1774), (.ref b1821), .null, (.int 0)]) (rest := []) (own_rm34 l Z a0 hw [] r0 b1774 b1821 sa ta bs bt S T ss tt kk nn [c0, (c1 + c0), (c2 + (c1 + c0)), (c3 + (c2 + (c1 + c0)))] (List.replicate mm 0) [e0, e1, e2, e3] GG h1818 n0 z1893 f1867 f1872 f1877 f1882 f1887 f1864 f1888 f1889 f1890 f1891 lS lT hS hT hkk hn3 f1892 (by rw [List.map_replicate]; exact A1820) hplc g1782 g1855 ne1854 ne1776 ne1827 ne1780 ne1848 ne1781 ne1853 hk3) (W := 0) (by decide) (by decide) (by decide) (by decide) rfl (by rw [hml]; rfl) (lenOf own_pd11 rfl) rfl (by show 2 * 0 + _ ≤ _; exact Nat.le_of_eq rfl) (hb hby d12_118) (fun T1894 h1896 v1897 Y1895 q1898 => ?_)
  obtain ⟨rfl, K1899, A1900, A1901⟩ := q1898
  replace A1900 : own_A Z h1896 b1774 .int [(.int e0), (.int e1), (.int e2), (.int e3)] := A1900
  show own_Ends _ _ _ _ (T1894.setTop (mkF m 121 #[rv r0, iv 3, iv 1, rv b1774, rv b1821, .val .null, iv 0] []))
  refine o_iinc Y1895 hx hby d12_121 rfl (l' := #[rv r0, iv 3, iv 1, rv b1774, rv b1821, .val .null, iv 1]) rfl ?_
  refine o_goto Y1895 hx hby (pc' := 104) d12_124 (by decide) (by decide) ?_
  refine o_iload Y1895 hx hby d12_104 rfl ?_
  refine o_iloadN Y1895 hx hby d12_106 rfl ?_
  refine o_icmpYes Y1895 hx hby (pc' := 127) d12_107 rfl (XT.ii_ge_t (by decide)) (by decide) (by decide) ?_
  refine o_aloadN Y1895 hx hby d12_127 rfl rfl ?_
  refine o_iconst Y1895 hx hby d12_128 (x := 0) rfl ?_
  refine o_aloadN Y1895 hx hby d12_129 rfl rfl ?_
  refine o_iconst Y1895 hx hby d12_130 (x := 1) rfl ?_
  refine o_iloadN Y1895 hx hby d12_131 rfl ?_
  refine own_copy Y1895 hx hZ hown (own_w hw 102 rfl) (own_w hw 105 rfl) (own_w hw 103 rfl) (own_w hw 104 rfl) (a := b1774) (b := b1774) (xs := [e0, e1, e2, e3]) (ys := [e0, e1, e2, e3]) (zs := [e0, e0, e1, e2]) A1900 A1900 (sN := 0) (dN := 1) (nN := 3) own_l0 own_l1 own_l3 (Nat.le_of_ble_eq_true rfl) (Nat.le_of_ble_eq_true rfl) rfl rfl g1782 rfl (by rw [hml]; rfl) rfl (hb hby d12_132) (by decide) (W := 0) (by show 2 * 0 + _ ≤ _; exact Nat.le_of_eq rfl) (by decide) (fun T1902 h1904 Y1903 K1905 A1906 => ?_)
  show own_Ends _ _ _ _ (T1902.setTop (mkF m 135 #[rv r0, iv 3, iv 1, rv b1774, rv b1821, .val .null, iv 1] []))
  have A1907 : own_A Z h1904 b1774 .int [(.int e0), (.int e0), (.int e1), (.int e2)] := A1906
  refine o_aloadN Y1903 hx hby d12_135 rfl rfl ?_
  refine o_iconst Y1903 hx hby d12_136 (x := 0) rfl ?_
  refine o_iconst Y1903 hx hby d12_137 (x := 0) rfl ?_
  refine p_stI Y1903 hx hZ A1907 g1782 (i := 0) (by decide) (by decide) (Nat.le_of_ble_eq_true rfl) hby rfl d12_138 (fun T1908 h1910 Y1909 W1911 A1912 => ?_)
  replace A1912 : own_A Z h1910 b1774 .int [(.int 0), (.int e0), (.int e1), (.int e2)] := A1912
  refine o_aloadN Y1909 hx hby d12_139 rfl rfl ?_
  refine o_aconstNull Y1909 hx hby d12_140  ?_
  have f1913 := f1867.keep K1899
  have f1914 := f1913.keep K1905
  have f1915 := f1914.wr W1911
  have f1916 := f1872.keep K1899 (ninS ne1776 (ninS ne1827 nin0))
  have f1917 := f1916.keep K1905 (ninS ne1776 nin0)
  have f1918 := f1917.other W1911 (Or.inl ne1776)
  refine p_putF Y1909 hx hZ hown (host := "") (Or.inl (own_w hw 16 rfl)) Via.refl f1918 f1915 (Or.inl (own_w hw 17 rfl)) (own_w hw 1 rfl) g (ty := (.array (.array .int))) (by decide) rfl rfl hby rfl d12_141 (fun T1919 h1921 Y1920 W1922 F1923 => ?_)
  refine o_aloadN Y1920 hx hby d12_144 rfl rfl ?_
  refine o_aconstNull Y1920 hx hby d12_145  ?_
  have f1924 := f1915.wr W1922
  have f1925 := f1877.keep K1899 (ninS ne1776 (ninS ne1827 nin0))
  have f1926 := f1925.keep K1905 (ninS ne1776 nin0)
  have f1927 := f1926.other W1911 (Or.inl ne1776)
  have f1928 := own_sn f1927 W1922 (own_wl hw 19 rfl) (own_wl hw 17 rfl) (by decide) own_f4 own_f4
  refine p_putF Y1920 hx hZ hown (host := "") (Or.inl (own_w hw 18 rfl)) Via.refl f1928 f1924 (Or.inl (own_w hw 19 rfl)) (own_w hw 1 rfl) g (ty := (.array (.array .int))) (by decide) rfl rfl hby rfl d12_146 (fun T1929 h1931 Y1930 W1932 F1933 => ?_)
  refine o_aloadN Y1930 hx hby d12_149 rfl rfl ?_
  refine o_aconstNull Y1930 hx hby d12_150  ?_
  have f1934 := f1924.wr W1932
  have f1935 := f1864.keep K1899 (ninS ne1776 (ninS ne1827 nin0))
  have f1936 := f1935.keep K1905 (ninS ne1776 nin0)
  have f1937 := f1936.other W1911 (Or.inl ne1776)
  have f1938 := own_sn f1937 W1922 (own_wl hw 101 rfl) (own_wl hw 17 rfl) (by decide) own_f9 own_f4
  have f1939 := own_sn f1938 W1932 (own_wl hw 101 rfl) (own_wl hw 19 rfl) (by decide) own_f9 own_f4
  refine p_putF Y1930 hx hZ hown (host := "") (Or.inl (own_w hw 100 rfl)) Via.refl f1939 f1934 (Or.inl (own_w hw 101 rfl)) (own_w hw 1 rfl) g (ty := (.array (.array .long))) (by decide) rfl rfl hby rfl d12_151 (fun T1940 h1942 Y1941 W1943 F1944 => ?_)
  refine o_aloadN Y1941 hx hby d12_154 rfl rfl ?_
  have f1945 := Fb_index.ext E1772
  have f1946 := f1945.keep K1799 (ninS ne1776 nin0)
  have f1947 := f1946.other W1804 (Or.inl ne1776)
  have f1948 := f1947.other W1809 (Or.inl ne1776)
  have f1949 := f1948.other W1814 (Or.inl ne1776)
  have f1950 := f1949.ext E1819
  have f1951 := f1950.keep K1899 (ninS ne1776 (ninS ne1827 nin0))
  have f1952 := f1951.keep K1905 (ninS ne1776 nin0)
  have f1953 := f1952.other W1911 (Or.inl ne1776)
  have f1954 := own_sn f1953 W1922 (own_wf hw 44 rfl) (own_wl hw 17 rfl) (by decide) own_f7 own_f4
  have f1955 := own_sn f1954 W1932 (own_wf hw 44 rfl) (own_wl hw 19 rfl) (by decide) own_f7 own_f4
  have f1956 := own_sn f1955 W1943 (own_wf hw 44 rfl) (own_wl hw 101 rfl) (by decide) own_f7 own_f9
  refine p_getF Y1941 hx hZ hown (host := "") (Or.inl (own_w hw 43 rfl)) Via.refl f1956 hby rfl d12_155 (fun T1957 Y1958 => ?_)
  have f1959 := f1832.ext E1819
  have f1960 := f1959.keep K1899
  have f1961 := f1960.keep K1905
  have f1962 := f1961.wr W1911
  have f1963 := f1962.wr W1922
  have f1964 := f1963.wr W1932
  have f1965 := f1964.wr W1943
  have f1966 := Fx_ids.ext E1772
  have f1967 := f1966.keep K1799 (ninS ne1777 nin0)
  have f1968 := f1967.other W1804 (Or.inl ne1777)
  have f1969 := f1968.other W1809 (Or.inl ne1777)
  have f1970 := f1969.other W1814 (Or.inl ne1777)
  have f1971 := f1970.ext E1819
  have f1972 := f1971.keep K1899 (ninS ne1777 (ninS ne1833 nin0))
  have f1973 := f1972.keep K1905 (ninS ne1777 nin0)
  have f1974 := f1973.other W1911 (Or.inl ne1777)
  have f1975 := f1974.other W1922 (Or.inl nir)
  have f1976 := f1975.other W1932 (Or.inl nir)
  have f1977 := f1976.other W1943 (Or.inl nir)
  refine own_callV Y1958 hx hZ (y := (⟨"kombos/graph/IdIndex", "trimToSize", "()V"⟩ : MethodName)) (z := (⟨"kombos/graph/IdIndex", "trimToSize", "()V"⟩ : MethodName)) hown (own_w hw 106 rfl) (own_w hw 107 rfl) (notFace_of_selects (args := #[]) (mvT hZ (own_w hw 109 rfl))) (own_w hw 109 rfl) (own_w hw 108 rfl) (own_w hw 36 rfl) (own_w hw 110 rfl) (by decide) (a := ix) f1965 (argsL := []) (rest := []) (own_rm14 l Z a0 hw [] ix  h1942 n0  f1965 f1977) (W := 0) (by decide) (by decide) (by decide) (by decide) rfl (by rw [hml]; rfl) (lenOf own_pd8 rfl) rfl (by show 2 * 0 + _ ≤ _; exact Nat.le_of_eq rfl) (hb hby d12_158) (fun T1978 h1980 v1981 Y1979 q1982 => ?_)
  obtain ⟨rfl, rfl⟩ := q1982
  show own_Ends _ _ _ _ (T1978.setTop (mkF m 161 #[rv r0, iv 3, iv 1, rv b1774, rv b1821, .val .null, iv 1] []))
  refine o_aloadN Y1979 hx hby d12_161 rfl rfl ?_
  have f1983 := Fb_keys.ext E1772
  have f1984 := f1983.keep K1799 (ninS ne1776 nin0)
  have f1985 := f1984.other W1804 (Or.inl ne1776)
  have f1986 := f1985.other W1809 (Or.inl ne1776)
  have f1987 := f1986.other W1814 (Or.inl ne1776)
  have f1988 := f1987.ext E1819
  have f1989 := f1988.keep K1899 (ninS ne1776 (ninS ne1827 nin0))
  have f1990 := f1989.keep K1905 (ninS ne1776 nin0)
  have f1991 := f1990.other W1911 (Or.inl ne1776)
  have f1992 := own_sn f1991 W1922 (own_wl hw 57 rfl) (own_wl hw 17 rfl) (by decide) own_f8 own_f4
  have f1993 := own_sn f1992 W1932 (own_wl hw 57 rfl) (own_wl hw 19 rfl) (by decide) own_f8 own_f4
  have f1994 := own_sn f1993 W1943 (own_wl hw 57 rfl) (own_wl hw 101 rfl) (by decide) own_f8 own_f9
  refine p_getF Y1979 hx hZ hown (host := "") (Or.inl (own_w hw 56 rfl)) Via.refl f1994 hby rfl d12_162 (fun T1995 Y1996 => ?_)
  refine o_ifnullYes Y1996 hx hby (pc' := 175) d12_165 rfl (by decide) (by decide) ?_
  refine own_new Y1996 hx hZ hown (own_w hw 111 rfl) (own_w hw 112 rfl) (own_w hw 113 rfl) rfl (hb hby d12_175) (by decide) (by decide) (fun T1997 h1999 b2003 eb2004 Y1998 E2000 X2001 D2002 => ?_)
  have f2005 := f1934.wr W1943
  have ne2006 : r0 ≠ b2003 := Nat.ne_of_lt (by rw [eb2004]; exact f2005.lt)
  have ne2007 : ix ≠ b2003 := Nat.ne_of_lt (by rw [eb2004]; exact f1965.lt)
  have f2008 := f1888.keep K1899 (ninS ne1778 (ninS ne1838 nin0))
  have f2009 := f2008.keep K1905 (ninS ne1778 nin0)
  have f2010 := f2009.other W1911 ne1778
  have f2011 := f2010.other W1922 nsr
  have f2012 := f2011.other W1932 nsr
  have f2013 := f2012.other W1943 nsr
  have ne2014 : sa ≠ b2003 := Nat.ne_of_lt (by rw [eb2004]; exact f2013.lt)
  have f2015 := f1889.keep K1899 (ninS ne1779 (ninS ne1843 nin0))
  have f2016 := f2015.keep K1905 (ninS ne1779 nin0)
  have f2017 := f2016.other W1911 ne1779
  have f2018 := f2017.other W1922 ntr
  have f2019 := f2018.other W1932 ntr
  have f2020 := f2019.other W1943 ntr
  have ne2021 : ta ≠ b2003 := Nat.ne_of_lt (by rw [eb2004]; exact f2020.lt)
  have f2022 := f1890.keep K1899 (ninS ne1780 (ninS ne1848 nin0))
  have f2023 := f2022.keep K1905 (ninS ne1780 nin0)
  have f2024 := f2023.other W1911 ne1780
  have f2025 := f2024.other W1922 nbsr0
  have f2026 := f2025.other W1932 nbsr0
  have f2027 := f2026.other W1943 nbsr0
  have ne2028 : bs ≠ b2003 := Nat.ne_of_lt (by rw [eb2004]; exact f2027.lt)
  have f2029 := f1891.keep K1899 (ninS ne1781 (ninS ne1853 nin0))
  have f2030 := f2029.keep K1905 (ninS ne1781 nin0)
  have f2031 := f2030.other W1911 ne1781
  have f2032 := f2031.other W1922 nbtr0
  have f2033 := f2032.other W1932 nbtr0
  have f2034 := f2033.other W1943 nbtr0
  have ne2035 : bt ≠ b2003 := Nat.ne_of_lt (by rw [eb2004]; exact f2034.lt)
  have f2036 := A1912.other W1922 (Ne.symm ne1776)
  have f2037 := f2036.other W1932 (Ne.symm ne1776)
  have f2038 := f2037.other W1943 (Ne.symm ne1776)
  have ne2039 : b1774 ≠ b2003 := Nat.ne_of_lt (by rw [eb2004]; exact f2038.lt)
  have f2040 := A1901.keep K1905 (ninS (Ne.symm ne1854) nin0)
  have f2041 := f2040.other W1911 (Ne.symm ne1854)
  have f2042 := f2041.other W1922 (Ne.symm ne1827)
  have f2043 := f2042.other W1932 (Ne.symm ne1827)
  have f2044 := f2043.other W1943 (Ne.symm ne1827)
  have ne2045 : b1821 ≠ b2003 := Nat.ne_of_lt (by rw [eb2004]; exact f2044.lt)
  have z2047 : n0 ≤ h1896.size := Nat.le_trans z1893 K1899.1
  have z2048 : n0 ≤ h1904.size := Nat.le_trans z2047 K1905.1
  have z2049 : n0 ≤ h1910.size := Nat.le_trans z2048 (Nat.le_of_eq W1911.size.symm)
  have z2050 : n0 ≤ h1921.size := Nat.le_trans z2049 (Nat.le_of_eq W1922.size.symm)
  have z2051 : n0 ≤ h1931.size := Nat.le_trans z2050 (Nat.le_of_eq W1932.size.symm)
  have z2052 : n0 ≤ h1942.size := Nat.le_trans z2051 (Nat.le_of_eq W1943.size.symm)
  have g2046 : n0 ≤ b2003 := by rw [eb2004]; exact z2052
  have F2053 : Fld Z h1999 b2003 "kombos/graph/Graph" "index" "Lkombos/graph/IdIndex;" .null := D2002 _ _ _ (.object "kombos/graph/IdIndex") (Or.inr (own_w hw 120 rfl)) (by decide)
  have F2054 : Fld Z h1999 b2003 "kombos/graph/Graph" "keys" "Lkombos/graph/KeyIndex;" .null := D2002 _ _ _ (.object "kombos/graph/KeyIndex") (Or.inr (own_w hw 123 rfl)) (by decide)
  have F2055 : Fld Z h1999 b2003 "kombos/graph/Graph" "directed" "Z" (.int 0) := D2002 _ _ _ .boolean (Or.inr (own_w hw 126 rfl)) (by decide)
  have F2056 : Fld Z h1999 b2003 "kombos/graph/Graph" "edgeCount" "I" (.int 0) := D2002 _ _ _ .int (Or.inr (own_w hw 129 rfl)) (by decide)
  have F2057 : Fld Z h1999 b2003 "kombos/graph/Graph" "edgeStart" "[I" .null := D2002 _ _ _ (.array .int) (Or.inr (own_w hw 131 rfl)) (by decide)
  have F2058 : Fld Z h1999 b2003 "kombos/graph/Graph" "edgeTarget" "[I" .null := D2002 _ _ _ (.array .int) (Or.inr (own_w hw 133 rfl)) (by decide)
  have F2059 : Fld Z h1999 b2003 "kombos/graph/Graph" "edgeWeight" "[J" .null := D2002 _ _ _ (.array .long) (Or.inr (own_w hw 135 rfl)) (by decide)
  have F2060 : Fld Z h1999 b2003 "kombos/graph/Graph" "decimal" "Z" (.int 0) := D2002 _ _ _ .boolean (Or.inr (own_w hw 139 rfl)) (by decide)
  have F2061 : Fld Z h1999 b2003 "kombos/graph/Graph" "vertexColumns" "Ljava/util/List;" .null := D2002 _ _ _ (.object "java/util/List") (Or.inr (own_w hw 142 rfl)) (by decide)
  have F2062 : Fld Z h1999 b2003 "kombos/graph/Graph" "edgeColumns" "Ljava/util/List;" .null := D2002 _ _ _ (.object "java/util/List") (Or.inr (own_w hw 145 rfl)) (by decide)
  show own_Ends _ _ _ _ (T1997.setTop (mkF m 178 #[rv r0, iv 3, iv 1, rv b1774, rv b1821, .val .null, iv 1] [(.ref b2003)]))
  refine o_dup Y1998 hx hby d12_178 rfl rfl ?_
  refine o_aloadN Y1998 hx hby d12_179 rfl rfl ?_
  refine o_aloadN Y1998 hx hby d12_180 rfl rfl ?_
  refine o_aload Y1998 hx hby d12_181 rfl rfl ?_
  refine o_aload Y1998 hx hby d12_183 rfl rfl ?_
  have f2063 := f2005.ext E2000
  have f2064 := f1956.ext E2000
  have f2065 := f1994.ext E2000
  have f2066 := f1882.keep K1899 (ninS ne1776 (ninS ne1827 nin0))
  have f2067 := f2066.keep K1905 (ninS ne1776 nin0)
  have f2068 := f2067.other W1911 (Or.inl ne1776)
  have f2069 := own_sn f2068 W1922 (own_wf hw 31 rfl) (own_wl hw 17 rfl) (by decide) own_f6 own_f4
  have f2070 := own_sn f2069 W1932 (own_wf hw 31 rfl) (own_wl hw 19 rfl) (by decide) own_f6 own_f4
  have f2071 := own_sn f2070 W1943 (own_wf hw 31 rfl) (own_wl hw 101 rfl) (by decide) own_f6 own_f9
  have f2072 := f2071.ext E2000
  have f2073 := f1887.keep K1899 (ninS ne1776 (ninS ne1827 nin0))
  have f2074 := f2073.keep K1905 (ninS ne1776 nin0)
  have f2075 := f2074.other W1911 (Or.inl ne1776)
  have f2076 := own_sn f2075 W1922 (own_wl hw 98 rfl) (own_wl hw 17 rfl) (by decide) own_f1 own_f4
  have f2077 := own_sn f2076 W1932 (own_wl hw 98 rfl) (own_wl hw 19 rfl) (by decide) own_f1 own_f4
  have f2078 := own_sn f2077 W1943 (own_wl hw 98 rfl) (own_wl hw 101 rfl) (by decide) own_f1 own_f9
  have f2079 := f2078.ext E2000
  have f2080 := Fb_decimal.ext E1772
  have f2081 := f2080.keep K1799 (ninS ne1776 nin0)
  have f2082 := f2081.other W1804 (Or.inl ne1776)
  have f2083 := f2082.other W1809 (Or.inl ne1776)
  have f2084 := f2083.other W1814 (Or.inl ne1776)
  have f2085 := f2084.ext E1819
  have f2086 := f2085.keep K1899 (ninS ne1776 (ninS ne1827 nin0))
  have f2087 := f2086.keep K1905 (ninS ne1776 nin0)
  have f2088 := f2087.other W1911 (Or.inl ne1776)
  have f2089 := own_sn f2088 W1922 (own_wl hw 137 rfl) (own_wl hw 17 rfl) (by decide) own_f6 own_f4
  have f2090 := own_sn f2089 W1932 (own_wl hw 137 rfl) (own_wl hw 19 rfl) (by decide) own_f6 own_f4
  have f2091 := own_sn f2090 W1943 (own_wl hw 137 rfl) (own_wl hw 101 rfl) (by decide) own_f6 own_f9
  have f2092 := f2091.ext E2000
  have f2093 := Fb_vertexColumns.ext E1772
  have f2094 := f2093.keep K1799 (ninS ne1776 nin0)
  have f2095 := f2094.other W1804 (Or.inl ne1776)
  have f2096 := f2095.other W1809 (Or.inl ne1776)
  have f2097 := f2096.other W1814 (Or.inl ne1776)
  have f2098 := f2097.ext E1819
  have f2099 := f2098.keep K1899 (ninS ne1776 (ninS ne1827 nin0))
  have f2100 := f2099.keep K1905 (ninS ne1776 nin0)
  have f2101 := f2100.other W1911 (Or.inl ne1776)
  have f2102 := own_sn f2101 W1922 (own_wl hw 27 rfl) (own_wl hw 17 rfl) (by decide) own_f5 own_f4
  have f2103 := own_sn f2102 W1932 (own_wl hw 27 rfl) (own_wl hw 19 rfl) (by decide) own_f5 own_f4
  have f2104 := own_sn f2103 W1943 (own_wl hw 27 rfl) (own_wl hw 101 rfl) (by decide) own_f5 own_f9
  have f2105 := f2104.ext E2000
  have f2106 := Fb_edgeColumns.ext E1772
  have f2107 := f2106.keep K1799 (ninS ne1776 nin0)
  have f2108 := f2107.other W1804 (Or.inl ne1776)
  have f2109 := f2108.other W1809 (Or.inl ne1776)
  have f2110 := f2109.other W1814 (Or.inl ne1776)
  have f2111 := f2110.ext E1819
  have f2112 := f2111.keep K1899 (ninS ne1776 (ninS ne1827 nin0))
  have f2113 := f2112.keep K1905 (ninS ne1776 nin0)
  have f2114 := f2113.other W1911 (Or.inl ne1776)
  have f2115 := own_sn f2114 W1922 (own_wl hw 29 rfl) (own_wl hw 17 rfl) (by decide) own_f5 own_f4
  have f2116 := own_sn f2115 W1932 (own_wl hw 29 rfl) (own_wl hw 19 rfl) (by decide) own_f5 own_f4
  have f2117 := own_sn f2116 W1943 (own_wl hw 29 rfl) (own_wl hw 101 rfl) (by decide) own_f5 own_f9
  have f2118 := f2117.ext E2000
  refine own_callNN Y1998 hx hZ (y := (⟨"kombos/graph/Graph", "<init>", "(Lkombos/graph/Graph$Builder;[I[I[J)V"⟩ : MethodName)) rfl hown (own_w hw 114 rfl) (own_w hw 115 rfl) (own_w hw 113 rfl) (own_w hw 116 rfl) (by decide) (a := b2003) (argsL := [(.ref r0), (.ref b1774), (.ref b1821), .null]) (rest := [(.ref b2003)]) (own_rm15 l Z a0 hw [] b2003 r0 b1774 b1821 ix el kk h1999 n0  X2001 F2053 F2054 F2055 F2056 F2057 F2058 F2059 F2060 F2061 F2062 f2063 f2064 f2065 f2072 f2079 f2092 f2105 f2118 g2046 ne2006) (W := 1) (by decide) (by decide) (by decide) (by decide) rfl (by rw [hml]; rfl) (lenOf own_pd9 rfl) rfl (by show 2 * 0 + _ ≤ _; exact Nat.le_of_eq rfl) (hb hby d12_185) (fun T2119 h2121 v2122 Y2120 q2123 => ?_)
  obtain ⟨rfl, K2124, F2125, F2126, F2127, F2128, F2129⟩ := q2123
  show own_Ends _ _ _ _ (T2119.setTop (mkF m 188 #[rv r0, iv 3, iv 1, rv b1774, rv b1821, .val .null, iv 1] [(.ref b2003)]))
  have z2130 : n0 ≤ h1999.size := Nat.le_trans z2052 E2000.1
  have z2131 : n0 ≤ h2121.size := Nat.le_trans z2130 K2124.1
  have f2132 := f2038.ext E2000
  have f2133 := f2132.keep K2124 (ninS ne2039 nin0)
  have f2134 := f2044.ext E2000
  have f2135 := f2134.keep K2124 (ninS ne2045 nin0)
  have f2136 := f1965.ext E2000
  have f2137 := f2136.keep K2124
  have f2138 := f1977.ext E2000
  have f2139 := f2138.keep K2124 (ninS ne2007 nin0)
  have f2140 := Fx_size.ext E1772
  have f2141 := f2140.keep K1799 (ninS ne1777 nin0)
  have f2142 := f2141.other W1804 (Or.inl ne1777)
  have f2143 := f2142.other W1809 (Or.inl ne1777)
  have f2144 := f2143.other W1814 (Or.inl ne1777)
  have f2145 := f2144.ext E1819
  have f2146 := f2145.keep K1899 (ninS ne1777 (ninS ne1833 nin0))
  have f2147 := f2146.keep K1905 (ninS ne1777 nin0)
  have f2148 := f2147.other W1911 (Or.inl ne1777)
  have f2149 := f2148.other W1922 (Or.inl nir)
  have f2150 := f2149.other W1932 (Or.inl nir)
  have f2151 := f2150.other W1943 (Or.inl nir)
  have f2152 := f2151.ext E2000
  have f2153 := f2152.keep K2124 (ninS ne2007 nin0)
  refine own_retA Y2120 hx hlk hret rfl rfl rfl (hb hby d12_188) (by decide) (by decide) ?_
  exact ⟨_, _, _, rfl, z2131, F2125, F2126, F2127, F2128, F2129, f2133, f2135, f2137, f2139, f2153⟩
def bc17 : ByteArray := prog_44_method_3_code
theorem d17_0 : decode bc17 0 = .ok (.aload_n 0, 1) := by decide +kernel
theorem d17_1 : decode bc17 1 = .ok (.getfield 13, 3) := by decide +kernel
theorem d17_4 : decode bc17 4 = .ok (.invokevirtual 55, 3) := by decide +kernel
theorem d17_7 : decode bc17 7 = .ok (.ireturn, 1) := by decide +kernel
theorem own_ef_own_rm17 (m : MethodId) (r0 : Addr) : entryFrame m #[(.ref r0)] 1 = mkF m 0 #[rv r0] [] := by first | (simp [entryFrame, mkF, argsToLocals, Value.category]; done) | rfl
def own_Q_own_rm17 (Z : State)  (h0 : Heap) (n0 : Nat) (v : Option Value) (h : Heap) : Prop := v = some (.int 3) ∧ h0 = h
set_option maxRecDepth 65536 in
set_option maxHeartbeats 40000000 in
theorem own_rm17 (l : Launch) (Z : State) (a0 : Array Value) (hw : ∀ d ∈ tables_1, d.before a0 Z = true) (ws : List Jvm.Cond) (r0 : Addr) (ix : Addr) (h0 : Heap) (n0 : Nat)  (Eg : Exa Z h0 r0 "kombos/graph/Graph") (Fg_index : Fld Z h0 r0 "kombos/graph/Graph" "index" "Lkombos/graph/IdIndex;" (.ref ix)) (Ex : Exa Z h0 ix "kombos/graph/IdIndex") (Fx_size : Fld Z h0 ix "kombos/graph/IdIndex" "size" "I" (.int 3)) :
    own_Con l Z (⟨"kombos/graph/Graph", "vertexCount", "()I"⟩ : MethodName) prog_44_method_3_code 1 (some .int) ws ({ frames := 1, cells := 0, slots := 0, locals := 12 } : Room) #[(.ref r0)] h0 n0 (own_Q_own_rm17 Z  h0 n0) := by
  refine own_body (plainFor_of_name own_pn3) ?_
  intro p e s m below meth c T0 hx hZ hby hml hown hnm hret hlk Y0
  replace hown : s.vm.findClass "kombos/graph/Graph" = some m.cls := hown
  replace hnm : meth.name = "vertexCount" := hnm
  rw [own_ef_own_rm17 m r0]
  show own_Ends _ _ _ _ (T0.setTop (mkF m 0 #[rv r0] []))
  refine o_aloadN Y0 hx hby d17_0 rfl rfl ?_
  refine p_getF Y0 hx hZ hown (host := "") (Or.inl (own_w hw 119 rfl)) Via.refl Fg_index hby rfl d17_1 (fun T2154 Y2155 => ?_)
  refine own_callV Y2155 hx hZ (y := (⟨"kombos/graph/IdIndex", "size", "()I"⟩ : MethodName)) (z := (⟨"kombos/graph/IdIndex", "size", "()I"⟩ : MethodName)) hown (own_w hw 155 rfl) (own_w hw 93 rfl) (notFace_of_selects (args := #[]) (mvT hZ (own_w hw 95 rfl))) (own_w hw 95 rfl) (own_w hw 94 rfl) (own_w hw 36 rfl) (own_w hw 96 rfl) (by decide) (a := ix) Ex (argsL := []) (rest := []) (own_rm13 l Z a0 hw [] ix  h0 n0  Ex Fx_size) (W := 0) (by decide) (by decide) (by decide) (by decide) rfl (by rw [hml]; rfl) (lenOf own_pd7 rfl) rfl (by show 2 * 0 + _ ≤ _; exact Nat.le_of_eq rfl) (hb hby d17_4) (fun T2156 h2158 v2159 Y2157 q2160 => ?_)
  obtain ⟨rfl, rfl⟩ := q2160
  show own_Ends _ _ _ _ (T2156.setTop (mkF m 7 #[rv r0] [(.int 3)]))
  refine own_retI Y2157 hx hlk hret (hb hby d17_7) (by decide) (by decide) ?_
  exact ⟨rfl, rfl⟩
def bc18 : ByteArray := prog_44_method_5_code
theorem d18_0 : decode bc18 0 = .ok (.aload_n 0, 1) := by decide +kernel
theorem d18_1 : decode bc18 1 = .ok (.getfield 25, 3) := by decide +kernel
theorem d18_4 : decode bc18 4 = .ok (.ireturn, 1) := by decide +kernel
theorem own_ef_own_rm18 (m : MethodId) (r0 : Addr) : entryFrame m #[(.ref r0)] 1 = mkF m 0 #[rv r0] [] := by first | (simp [entryFrame, mkF, argsToLocals, Value.category]; done) | rfl
def own_Q_own_rm18 (Z : State)  (h0 : Heap) (n0 : Nat) (v : Option Value) (h : Heap) : Prop := v = some (.int 0) ∧ h0 = h
set_option maxRecDepth 65536 in
set_option maxHeartbeats 40000000 in
theorem own_rm18 (l : Launch) (Z : State) (a0 : Array Value) (hw : ∀ d ∈ tables_1, d.before a0 Z = true) (ws : List Jvm.Cond) (r0 : Addr)  (h0 : Heap) (n0 : Nat)  (Eg : Exa Z h0 r0 "kombos/graph/Graph") (Fg_directed : Fld Z h0 r0 "kombos/graph/Graph" "directed" "Z" (.int 0)) :
    own_Con l Z (⟨"kombos/graph/Graph", "isDirected", "()Z"⟩ : MethodName) prog_44_method_5_code 1 (some .boolean) ws ({ frames := 0, cells := 0, slots := 0, locals := 0 } : Room) #[(.ref r0)] h0 n0 (own_Q_own_rm18 Z  h0 n0) := by
  refine own_body (plainFor_of_name own_pn3) ?_
  intro p e s m below meth c T0 hx hZ hby hml hown hnm hret hlk Y0
  replace hown : s.vm.findClass "kombos/graph/Graph" = some m.cls := hown
  replace hnm : meth.name = "isDirected" := hnm
  rw [own_ef_own_rm18 m r0]
  show own_Ends _ _ _ _ (T0.setTop (mkF m 0 #[rv r0] []))
  refine o_aloadN Y0 hx hby d18_0 rfl rfl ?_
  refine p_getF Y0 hx hZ hown (host := "") (Or.inl (own_w hw 125 rfl)) Via.refl Fg_directed hby rfl d18_1 (fun T2161 Y2162 => ?_)
  refine own_retN Y2162 hx hlk (t := .boolean) hret (by simp) (hb hby d18_4) (by decide) (by decide) ?_
  exact ⟨rfl, rfl⟩
def bc20 : ByteArray := prog_44_method_15_code
theorem d20_0 : decode bc20 0 = .ok (.aload_n 0, 1) := by decide +kernel
theorem d20_1 : decode bc20 1 = .ok (.getfield 31, 3) := by decide +kernel
theorem d20_4 : decode bc20 4 = .ok (.iload_n 1, 1) := by decide +kernel
theorem d20_5 : decode bc20 5 = .ok (.iaload, 1) := by decide +kernel
theorem d20_6 : decode bc20 6 = .ok (.ireturn, 1) := by decide +kernel
theorem own_ef_own_rm20_0 (m : MethodId) (r0 : Addr) : entryFrame m #[(.ref r0), (.int 0)] 2 = mkF m 0 #[rv r0, iv 0] [] := by first | (simp [entryFrame, mkF, argsToLocals, Value.category]; done) | rfl
def own_Q_own_rm20_0 (Z : State) (e0 e1 e2 : Int32) (h0 : Heap) (n0 : Nat) (v : Option Value) (h : Heap) : Prop := v = some (.int (0 : Int32)) ∧ h0 = h
set_option maxRecDepth 65536 in
set_option maxHeartbeats 40000000 in
theorem own_rm20_0 (l : Launch) (Z : State) (a0 : Array Value) (hw : ∀ d ∈ tables_1, d.before a0 Z = true) (ws : List Jvm.Cond) (r0 : Addr) (es : Addr) (e0 e1 e2 : Int32) (h0 : Heap) (n0 : Nat)  (Eg : Exa Z h0 r0 "kombos/graph/Graph") (Fg_edgeStart : Fld Z h0 r0 "kombos/graph/Graph" "edgeStart" "[I" (.ref es)) (A : own_A Z h0 es .int [(.int (0 : Int32)), (.int e0), (.int e1), (.int e2)]) :
    own_Con l Z (⟨"kombos/graph/Graph", "firstEdge", "(I)I"⟩ : MethodName) prog_44_method_15_code 2 (some .int) ws ({ frames := 0, cells := 0, slots := 0, locals := 0 } : Room) #[(.ref r0), (.int 0)] h0 n0 (own_Q_own_rm20_0 Z e0 e1 e2 h0 n0) := by
  refine own_body (plainFor_of_name own_pn3) ?_
  intro p e s m below meth c T0 hx hZ hby hml hown hnm hret hlk Y0
  replace hown : s.vm.findClass "kombos/graph/Graph" = some m.cls := hown
  replace hnm : meth.name = "firstEdge" := hnm
  rw [own_ef_own_rm20_0 m r0]
  show own_Ends _ _ _ _ (T0.setTop (mkF m 0 #[rv r0, iv 0] []))
  refine o_aloadN Y0 hx hby d20_0 rfl rfl ?_
  refine p_getF Y0 hx hZ hown (host := "") (Or.inl (own_w hw 130 rfl)) Via.refl Fg_edgeStart hby rfl d20_1 (fun T2163 Y2164 => ?_)
  refine o_iloadN Y2164 hx hby d20_4 rfl ?_
  refine p_ldI Y2164 hx hZ A (i := 0) (by decide) (by decide) (Nat.le_of_ble_eq_true rfl) (v := (.int 0)) rfl hby rfl d20_5 ?_
  refine own_retI Y2164 hx hlk hret (hb hby d20_6) (by decide) (by decide) ?_
  exact ⟨rfl, rfl⟩
theorem own_ef_own_rm20_1 (m : MethodId) (r0 : Addr) : entryFrame m #[(.ref r0), (.int 1)] 2 = mkF m 0 #[rv r0, iv 1] [] := by first | (simp [entryFrame, mkF, argsToLocals, Value.category]; done) | rfl
def own_Q_own_rm20_1 (Z : State) (e0 e1 e2 : Int32) (h0 : Heap) (n0 : Nat) (v : Option Value) (h : Heap) : Prop := v = some (.int e0) ∧ h0 = h
set_option maxRecDepth 65536 in
set_option maxHeartbeats 40000000 in
theorem own_rm20_1 (l : Launch) (Z : State) (a0 : Array Value) (hw : ∀ d ∈ tables_1, d.before a0 Z = true) (ws : List Jvm.Cond) (r0 : Addr) (es : Addr) (e0 e1 e2 : Int32) (h0 : Heap) (n0 : Nat)  (Eg : Exa Z h0 r0 "kombos/graph/Graph") (Fg_edgeStart : Fld Z h0 r0 "kombos/graph/Graph" "edgeStart" "[I" (.ref es)) (A : own_A Z h0 es .int [(.int (0 : Int32)), (.int e0), (.int e1), (.int e2)]) :
    own_Con l Z (⟨"kombos/graph/Graph", "firstEdge", "(I)I"⟩ : MethodName) prog_44_method_15_code 2 (some .int) ws ({ frames := 0, cells := 0, slots := 0, locals := 0 } : Room) #[(.ref r0), (.int 1)] h0 n0 (own_Q_own_rm20_1 Z e0 e1 e2 h0 n0) := by
  refine own_body (plainFor_of_name own_pn3) ?_
  intro p e s m below meth c T0 hx hZ hby hml hown hnm hret hlk Y0
  replace hown : s.vm.findClass "kombos/graph/Graph" = some m.cls := hown
  replace hnm : meth.name = "firstEdge" := hnm
  rw [own_ef_own_rm20_1 m r0]
  show own_Ends _ _ _ _ (T0.setTop (mkF m 0 #[rv r0, iv 1] []))
  refine o_aloadN Y0 hx hby d20_0 rfl rfl ?_
  refine p_getF Y0 hx hZ hown (host := "") (Or.inl (own_w hw 130 rfl)) Via.refl Fg_edgeStart hby rfl d20_1 (fun T2165 Y2166 => ?_)
  refine o_iloadN Y2166 hx hby d20_4 rfl ?_
  refine p_ldI Y2166 hx hZ A (i := 1) (by decide) (by decide) (Nat.le_of_ble_eq_true rfl) (v := (.int e0)) rfl hby rfl d20_5 ?_
  refine own_retI Y2166 hx hlk hret (hb hby d20_6) (by decide) (by decide) ?_
  exact ⟨rfl, rfl⟩
theorem own_ef_own_rm20_2 (m : MethodId) (r0 : Addr) : entryFrame m #[(.ref r0), (.int 2)] 2 = mkF m 0 #[rv r0, iv 2] [] := by first | (simp [entryFrame, mkF, argsToLocals, Value.category]; done) | rfl
def own_Q_own_rm20_2 (Z : State) (e0 e1 e2 : Int32) (h0 : Heap) (n0 : Nat) (v : Option Value) (h : Heap) : Prop := v = some (.int e1) ∧ h0 = h
set_option maxRecDepth 65536 in
set_option maxHeartbeats 40000000 in
theorem own_rm20_2 (l : Launch) (Z : State) (a0 : Array Value) (hw : ∀ d ∈ tables_1, d.before a0 Z = true) (ws : List Jvm.Cond) (r0 : Addr) (es : Addr) (e0 e1 e2 : Int32) (h0 : Heap) (n0 : Nat)  (Eg : Exa Z h0 r0 "kombos/graph/Graph") (Fg_edgeStart : Fld Z h0 r0 "kombos/graph/Graph" "edgeStart" "[I" (.ref es)) (A : own_A Z h0 es .int [(.int (0 : Int32)), (.int e0), (.int e1), (.int e2)]) :
    own_Con l Z (⟨"kombos/graph/Graph", "firstEdge", "(I)I"⟩ : MethodName) prog_44_method_15_code 2 (some .int) ws ({ frames := 0, cells := 0, slots := 0, locals := 0 } : Room) #[(.ref r0), (.int 2)] h0 n0 (own_Q_own_rm20_2 Z e0 e1 e2 h0 n0) := by
  refine own_body (plainFor_of_name own_pn3) ?_
  intro p e s m below meth c T0 hx hZ hby hml hown hnm hret hlk Y0
  replace hown : s.vm.findClass "kombos/graph/Graph" = some m.cls := hown
  replace hnm : meth.name = "firstEdge" := hnm
  rw [own_ef_own_rm20_2 m r0]
  show own_Ends _ _ _ _ (T0.setTop (mkF m 0 #[rv r0, iv 2] []))
  refine o_aloadN Y0 hx hby d20_0 rfl rfl ?_
  refine p_getF Y0 hx hZ hown (host := "") (Or.inl (own_w hw 130 rfl)) Via.refl Fg_edgeStart hby rfl d20_1 (fun T2167 Y2168 => ?_)
  refine o_iloadN Y2168 hx hby d20_4 rfl ?_
  refine p_ldI Y2168 hx hZ A (i := 2) (by decide) (by decide) (Nat.le_of_ble_eq_true rfl) (v := (.int e1)) rfl hby rfl d20_5 ?_
  refine own_retI Y2168 hx hlk hret (hb hby d20_6) (by decide) (by decide) ?_
  exact ⟨rfl, rfl⟩
def bc21 : ByteArray := prog_44_method_16_code
theorem d21_0 : decode bc21 0 = .ok (.aload_n 0, 1) := by decide +kernel
theorem d21_1 : decode bc21 1 = .ok (.getfield 31, 3) := by decide +kernel
theorem d21_4 : decode bc21 4 = .ok (.iload_n 1, 1) := by decide +kernel
theorem d21_5 : decode bc21 5 = .ok (.iconst 1, 1) := by decide +kernel
theorem d21_6 : decode bc21 6 = .ok (.iadd, 1) := by decide +kernel
theorem d21_7 : decode bc21 7 = .ok (.iaload, 1) := by decide +kernel
theorem d21_8 : decode bc21 8 = .ok (.ireturn, 1) := by decide +kernel
theorem own_ef_own_rm21_0 (m : MethodId) (r0 : Addr) : entryFrame m #[(.ref r0), (.int 0)] 2 = mkF m 0 #[rv r0, iv 0] [] := by first | (simp [entryFrame, mkF, argsToLocals, Value.category]; done) | rfl
def own_Q_own_rm21_0 (Z : State) (e0 e1 e2 : Int32) (h0 : Heap) (n0 : Nat) (v : Option Value) (h : Heap) : Prop := v = some (.int e0) ∧ h0 = h
set_option maxRecDepth 65536 in
set_option maxHeartbeats 40000000 in
theorem own_rm21_0 (l : Launch) (Z : State) (a0 : Array Value) (hw : ∀ d ∈ tables_1, d.before a0 Z = true) (ws : List Jvm.Cond) (r0 : Addr) (es : Addr) (e0 e1 e2 : Int32) (h0 : Heap) (n0 : Nat)  (Eg : Exa Z h0 r0 "kombos/graph/Graph") (Fg_edgeStart : Fld Z h0 r0 "kombos/graph/Graph" "edgeStart" "[I" (.ref es)) (A : own_A Z h0 es .int [(.int (0 : Int32)), (.int e0), (.int e1), (.int e2)]) :
    own_Con l Z (⟨"kombos/graph/Graph", "endEdge", "(I)I"⟩ : MethodName) prog_44_method_16_code 2 (some .int) ws ({ frames := 0, cells := 0, slots := 0, locals := 0 } : Room) #[(.ref r0), (.int 0)] h0 n0 (own_Q_own_rm21_0 Z e0 e1 e2 h0 n0) := by
  refine own_body (plainFor_of_name own_pn3) ?_
  intro p e s m below meth c T0 hx hZ hby hml hown hnm hret hlk Y0
  replace hown : s.vm.findClass "kombos/graph/Graph" = some m.cls := hown
  replace hnm : meth.name = "endEdge" := hnm
  rw [own_ef_own_rm21_0 m r0]
  show own_Ends _ _ _ _ (T0.setTop (mkF m 0 #[rv r0, iv 0] []))
  refine o_aloadN Y0 hx hby d21_0 rfl rfl ?_
  refine p_getF Y0 hx hZ hown (host := "") (Or.inl (own_w hw 130 rfl)) Via.refl Fg_edgeStart hby rfl d21_1 (fun T2169 Y2170 => ?_)
  refine o_iloadN Y2170 hx hby d21_4 rfl ?_
  refine o_iconst Y2170 hx hby d21_5 (x := 1) rfl ?_
  refine o_iadd Y2170 hx hby d21_6 rfl (z := 1) rfl ?_
  refine p_ldI Y2170 hx hZ A (i := 1) (by decide) (by decide) (Nat.le_of_ble_eq_true rfl) (v := (.int e0)) rfl hby rfl d21_7 ?_
  refine own_retI Y2170 hx hlk hret (hb hby d21_8) (by decide) (by decide) ?_
  exact ⟨rfl, rfl⟩
theorem own_ef_own_rm21_1 (m : MethodId) (r0 : Addr) : entryFrame m #[(.ref r0), (.int 1)] 2 = mkF m 0 #[rv r0, iv 1] [] := by first | (simp [entryFrame, mkF, argsToLocals, Value.category]; done) | rfl
def own_Q_own_rm21_1 (Z : State) (e0 e1 e2 : Int32) (h0 : Heap) (n0 : Nat) (v : Option Value) (h : Heap) : Prop := v = some (.int e1) ∧ h0 = h
set_option maxRecDepth 65536 in
set_option maxHeartbeats 40000000 in
theorem own_rm21_1 (l : Launch) (Z : State) (a0 : Array Value) (hw : ∀ d ∈ tables_1, d.before a0 Z = true) (ws : List Jvm.Cond) (r0 : Addr) (es : Addr) (e0 e1 e2 : Int32) (h0 : Heap) (n0 : Nat)  (Eg : Exa Z h0 r0 "kombos/graph/Graph") (Fg_edgeStart : Fld Z h0 r0 "kombos/graph/Graph" "edgeStart" "[I" (.ref es)) (A : own_A Z h0 es .int [(.int (0 : Int32)), (.int e0), (.int e1), (.int e2)]) :
    own_Con l Z (⟨"kombos/graph/Graph", "endEdge", "(I)I"⟩ : MethodName) prog_44_method_16_code 2 (some .int) ws ({ frames := 0, cells := 0, slots := 0, locals := 0 } : Room) #[(.ref r0), (.int 1)] h0 n0 (own_Q_own_rm21_1 Z e0 e1 e2 h0 n0) := by
  refine own_body (plainFor_of_name own_pn3) ?_
  intro p e s m below meth c T0 hx hZ hby hml hown hnm hret hlk Y0
  replace hown : s.vm.findClass "kombos/graph/Graph" = some m.cls := hown
  replace hnm : meth.name = "endEdge" := hnm
  rw [own_ef_own_rm21_1 m r0]
  show own_Ends _ _ _ _ (T0.setTop (mkF m 0 #[rv r0, iv 1] []))
  refine o_aloadN Y0 hx hby d21_0 rfl rfl ?_
  refine p_getF Y0 hx hZ hown (host := "") (Or.inl (own_w hw 130 rfl)) Via.refl Fg_edgeStart hby rfl d21_1 (fun T2171 Y2172 => ?_)
  refine o_iloadN Y2172 hx hby d21_4 rfl ?_
  refine o_iconst Y2172 hx hby d21_5 (x := 1) rfl ?_
  refine o_iadd Y2172 hx hby d21_6 rfl (z := 2) rfl ?_
  refine p_ldI Y2172 hx hZ A (i := 2) (by decide) (by decide) (Nat.le_of_ble_eq_true rfl) (v := (.int e1)) rfl hby rfl d21_7 ?_
  refine own_retI Y2172 hx hlk hret (hb hby d21_8) (by decide) (by decide) ?_
  exact ⟨rfl, rfl⟩
theorem own_ef_own_rm21_2 (m : MethodId) (r0 : Addr) : entryFrame m #[(.ref r0), (.int 2)] 2 = mkF m 0 #[rv r0, iv 2] [] := by first | (simp [entryFrame, mkF, argsToLocals, Value.category]; done) | rfl
def own_Q_own_rm21_2 (Z : State) (e0 e1 e2 : Int32) (h0 : Heap) (n0 : Nat) (v : Option Value) (h : Heap) : Prop := v = some (.int e2) ∧ h0 = h
set_option maxRecDepth 65536 in
set_option maxHeartbeats 40000000 in
theorem own_rm21_2 (l : Launch) (Z : State) (a0 : Array Value) (hw : ∀ d ∈ tables_1, d.before a0 Z = true) (ws : List Jvm.Cond) (r0 : Addr) (es : Addr) (e0 e1 e2 : Int32) (h0 : Heap) (n0 : Nat)  (Eg : Exa Z h0 r0 "kombos/graph/Graph") (Fg_edgeStart : Fld Z h0 r0 "kombos/graph/Graph" "edgeStart" "[I" (.ref es)) (A : own_A Z h0 es .int [(.int (0 : Int32)), (.int e0), (.int e1), (.int e2)]) :
    own_Con l Z (⟨"kombos/graph/Graph", "endEdge", "(I)I"⟩ : MethodName) prog_44_method_16_code 2 (some .int) ws ({ frames := 0, cells := 0, slots := 0, locals := 0 } : Room) #[(.ref r0), (.int 2)] h0 n0 (own_Q_own_rm21_2 Z e0 e1 e2 h0 n0) := by
  refine own_body (plainFor_of_name own_pn3) ?_
  intro p e s m below meth c T0 hx hZ hby hml hown hnm hret hlk Y0
  replace hown : s.vm.findClass "kombos/graph/Graph" = some m.cls := hown
  replace hnm : meth.name = "endEdge" := hnm
  rw [own_ef_own_rm21_2 m r0]
  show own_Ends _ _ _ _ (T0.setTop (mkF m 0 #[rv r0, iv 2] []))
  refine o_aloadN Y0 hx hby d21_0 rfl rfl ?_
  refine p_getF Y0 hx hZ hown (host := "") (Or.inl (own_w hw 130 rfl)) Via.refl Fg_edgeStart hby rfl d21_1 (fun T2173 Y2174 => ?_)
  refine o_iloadN Y2174 hx hby d21_4 rfl ?_
  refine o_iconst Y2174 hx hby d21_5 (x := 1) rfl ?_
  refine o_iadd Y2174 hx hby d21_6 rfl (z := 3) rfl ?_
  refine p_ldI Y2174 hx hZ A (i := 3) (by decide) (by decide) (Nat.le_of_ble_eq_true rfl) (v := (.int e2)) rfl hby rfl d21_7 ?_
  refine own_retI Y2174 hx hlk hret (hb hby d21_8) (by decide) (by decide) ?_
  exact ⟨rfl, rfl⟩
def bc35 : ByteArray := prog_44_method_17_code
theorem d35_0 : decode bc35 0 = .ok (.aload_n 0, 1) := by decide +kernel
theorem d35_1 : decode bc35 1 = .ok (.getfield 35, 3) := by decide +kernel
theorem d35_4 : decode bc35 4 = .ok (.iload_n 1, 1) := by decide +kernel
theorem d35_5 : decode bc35 5 = .ok (.iaload, 1) := by decide +kernel
theorem d35_6 : decode bc35 6 = .ok (.ireturn, 1) := by decide +kernel
theorem own_ef_own_rm35 (m : MethodId) (r0 : Addr) (x1 : Int32) : entryFrame m #[(.ref r0), (.int x1)] 2 = mkF m 0 #[rv r0, iv x1] [] := by first | (simp [entryFrame, mkF, argsToLocals, Value.category]; done) | rfl
def own_Q_own_rm35 (Z : State) (GG : List Int32) (i : Nat) (h0 : Heap) (n0 : Nat) (v : Option Value) (h : Heap) : Prop := v = some (.int (own_g GG i)) ∧ h0 = h
set_option maxRecDepth 65536 in
set_option maxHeartbeats 40000000 in
theorem own_rm35 (l : Launch) (Z : State) (a0 : Array Value) (hw : ∀ d ∈ tables_1, d.before a0 Z = true) (ws : List Jvm.Cond) (r0 : Addr) (x1 : Int32) (tg : Addr) (GG : List Int32) (i : Nat) (h0 : Heap) (n0 : Nat)  (Eg : Exa Z h0 r0 "kombos/graph/Graph") (Fg_edgeTarget : Fld Z h0 r0 "kombos/graph/Graph" "edgeTarget" "[I" (.ref tg)) (A : own_A Z h0 tg .int (GG.map Value.int)) (hi : x1.toInt = (i : Int)) (hil : i < GG.length) :
    own_Con l Z (⟨"kombos/graph/Graph", "target", "(I)I"⟩ : MethodName) prog_44_method_17_code 2 (some .int) ws ({ frames := 0, cells := 0, slots := 0, locals := 0 } : Room) #[(.ref r0), (.int x1)] h0 n0 (own_Q_own_rm35 Z GG i h0 n0) := by
  refine own_body (plainFor_of_name own_pn3) ?_
  intro p e s m below meth c T0 hx hZ hby hml hown hnm hret hlk Y0
  replace hown : s.vm.findClass "kombos/graph/Graph" = some m.cls := hown
  replace hnm : meth.name = "target" := hnm
  rw [own_ef_own_rm35 m r0 x1]
  show own_Ends _ _ _ _ (T0.setTop (mkF m 0 #[rv r0, iv x1] []))
  refine o_aloadN Y0 hx hby d35_0 rfl rfl ?_
  refine p_getF Y0 hx hZ hown (host := "") (Or.inl (own_w hw 132 rfl)) Via.refl Fg_edgeTarget hby rfl d35_1 (fun T2175 Y2176 => ?_)
  refine o_iloadN Y2176 hx hby d35_4 rfl ?_
  refine p_ldI Y2176 hx hZ A (i := i) (own_nat hi).1 (own_nat hi).2 (own_mlen hil) (v := (.int (own_g GG i))) (own_mget (own_mlen hil)) hby rfl d35_5 ?_
  refine own_retI Y2176 hx hlk hret (hb hby d35_6) (by decide) (by decide) ?_
  exact ⟨rfl, rfl⟩
def own_minL (x y : Int64) : Int64 := if y < x then y else x
def bc22 : ByteArray := jdk_29_method_70_code
theorem d22_0 : decode bc22 0 = .ok (.lload_n 0, 1) := by decide +kernel
theorem d22_1 : decode bc22 1 = .ok (.lload_n 2, 1) := by decide +kernel
theorem d22_2 : decode bc22 2 = .ok (.lcmp, 1) := by decide +kernel
theorem d22_3 : decode bc22 3 = .ok (.ifCond .gt 7, 3) := by decide +kernel
theorem d22_10 : decode bc22 10 = .ok (.lload_n 2, 1) := by decide +kernel
theorem d22_11 : decode bc22 11 = .ok (.lreturn, 1) := by decide +kernel
theorem d22_6 : decode bc22 6 = .ok (.lload_n 0, 1) := by decide +kernel
theorem d22_7 : decode bc22 7 = .ok (.goto 4, 3) := by decide +kernel
theorem own_ef_own_rm22 (m : MethodId) (x0 : Int64) (x1 : Int64) : entryFrame m #[(.long x0), (.long x1)] 4 = mkF m 0 #[.val (.long x0), .second, .val (.long x1), .second] [] := by first | (simp [entryFrame, mkF, argsToLocals, Value.category]; done) | rfl
def own_Q_own_rm22 (Z : State) (x0 : Int64) (x1 : Int64) (h0 : Heap) (n0 : Nat) (v : Option Value) (h : Heap) : Prop := v = some (.long (own_minL x0 x1)) ∧ h0 = h
set_option maxRecDepth 65536 in
set_option maxHeartbeats 40000000 in
theorem own_rm22 (l : Launch) (Z : State) (a0 : Array Value) (hw : ∀ d ∈ tables_1, d.before a0 Z = true) (ws : List Jvm.Cond) (x0 : Int64) (x1 : Int64)  (h0 : Heap) (n0 : Nat)   :
    own_Con l Z (⟨"java/lang/Math", "min", "(JJ)J"⟩ : MethodName) jdk_29_method_70_code 4 (some .long) ws ({ frames := 0, cells := 0, slots := 0, locals := 0 } : Room) #[(.long x0), (.long x1)] h0 n0 (own_Q_own_rm22 Z x0 x1 h0 n0) := by
  refine own_body (Jvm.Free.JP.mathPlain rfl (by decide +kernel)) ?_
  intro p e s m below meth c T0 hx hZ hby hml hown hnm hret hlk Y0
  replace hown : s.vm.findClass "java/lang/Math" = some m.cls := hown
  replace hnm : meth.name = "min" := hnm
  rw [own_ef_own_rm22 m x0 x1]
  show own_Ends _ _ _ _ (T0.setTop (mkF m 0 #[.val (.long x0), .second, .val (.long x1), .second] []))
  refine o_lloadN Y0 hx hby d22_0 rfl ?_
  refine o_lloadN Y0 hx hby d22_1 rfl ?_
  refine own_st (fun t_ => XS.lcmp (own_here Y0) hx rfl (hb hby d22_2) rfl) ?_
  show own_Ends _ _ _ _ (T0.setTop (mkF m 3 #[.val (.long x0), .second, .val (.long x1), .second] [(.int (lcmpW x0 x1))]))
  by_cases c3_2177 : x1 < x0
  ·
   refine o_ifYes Y0 hx hby (pc' := 10) d22_3 rfl (XT.ll_gt_t c3_2177) (by decide) (by decide) ?_
   refine o_lloadN Y0 hx hby d22_10 rfl ?_
   refine own_retJ Y0 hx hlk hret (hb hby d22_11) (by decide) (by decide) ?_
   exact ⟨by simp [own_minL, c3_2177], rfl⟩
  ·
   refine o_ifNo Y0 hx hby d22_3 rfl (XT.ll_gt_f c3_2177) ?_
   refine o_lloadN Y0 hx hby d22_6 rfl ?_
   refine o_goto Y0 hx hby (pc' := 11) d22_7 (by decide) (by decide) ?_
   refine own_retJ Y0 hx hlk hret (hb hby d22_11) (by decide) (by decide) ?_
   exact ⟨by simp [own_minL, c3_2177], rfl⟩
theorem own_pn4 : plainName "java/util/Arrays" = true := by first | (simp [plainName, overriddenIn]; done) | decide +kernel
def bc19 : ByteArray := jdk_65_method_103_code
theorem d19_0 : decode bc19 0 = .ok (.iconst 0, 1) := by decide +kernel
theorem d19_1 : decode bc19 1 = .ok (.istore_n 2, 1) := by decide +kernel
theorem d19_2 : decode bc19 2 = .ok (.aload_n 0, 1) := by decide +kernel
theorem d19_3 : decode bc19 3 = .ok (.arraylength, 1) := by decide +kernel
theorem d19_4 : decode bc19 4 = .ok (.istore_n 3, 1) := by decide +kernel
theorem d19_5 : decode bc19 5 = .ok (.iload_n 2, 1) := by decide +kernel
theorem d19_6 : decode bc19 6 = .ok (.iload_n 3, 1) := by decide +kernel
theorem d19_7 : decode bc19 7 = .ok (.if_icmp .ge 13, 3) := by decide +kernel
theorem d19_10 : decode bc19 10 = .ok (.aload_n 0, 1) := by decide +kernel
theorem d19_11 : decode bc19 11 = .ok (.iload_n 2, 1) := by decide +kernel
theorem d19_12 : decode bc19 12 = .ok (.iload_n 1, 1) := by decide +kernel
theorem d19_13 : decode bc19 13 = .ok (.iastore, 1) := by decide +kernel
theorem d19_14 : decode bc19 14 = .ok (.iinc 2 1, 3) := by decide +kernel
theorem d19_17 : decode bc19 17 = .ok (.goto (-12), 3) := by decide +kernel
theorem d19_20 : decode bc19 20 = .ok (.return_, 1) := by decide +kernel
theorem own_ef_own_rm19 (m : MethodId) (r0 : Addr) (x1 : Int32) : entryFrame m #[(.ref r0), (.int x1)] 4 = mkF m 0 #[rv r0, iv x1, .unset, .unset] [] := by first | (simp [entryFrame, mkF, argsToLocals, Value.category]; done) | rfl
def own_Q_own_rm19 (Z : State) (r0 : Addr) (x1 : Int32) (ys : List Int32) (h0 : Heap) (n0 : Nat) (v : Option Value) (h : Heap) : Prop := v = none ∧ Keep h0 h [r0] ∧ own_A Z h r0 .int ((List.replicate ys.length x1).map Value.int)
set_option maxRecDepth 65536 in
set_option maxHeartbeats 40000000 in
theorem own_rm19 (l : Launch) (Z : State) (a0 : Array Value) (hw : ∀ d ∈ tables_1, d.before a0 Z = true) (ws : List Jvm.Cond) (r0 : Addr) (x1 : Int32) (ys : List Int32) (ln : Int32) (h0 : Heap) (n0 : Nat) (Z0 : n0 ≤ h0.size) (A : own_A Z h0 r0 .int (ys.map Value.int)) (hln : ln.toInt = (ys.length : Int)) (g : n0 ≤ r0) :
    own_Con l Z (⟨"java/util/Arrays", "fill", "([II)V"⟩ : MethodName) jdk_65_method_103_code 4 none ws ({ frames := 0, cells := 0, slots := 0, locals := 0 } : Room) #[(.ref r0), (.int x1)] h0 n0 (own_Q_own_rm19 Z r0 x1 ys h0 n0) := by
  refine own_body (plainFor_of_name own_pn4) ?_
  intro p e s m below meth c T0 hx hZ hby hml hown hnm hret hlk Y0
  replace hown : s.vm.findClass "java/util/Arrays" = some m.cls := hown
  replace hnm : meth.name = "fill" := hnm
  rw [own_ef_own_rm19 m r0 x1]
  show own_Ends _ _ _ _ (T0.setTop (mkF m 0 #[rv r0, iv x1, .unset, .unset] []))
  refine o_iconst Y0 hx hby d19_0 (x := 0) rfl ?_
  refine o_istoreN Y0 hx hby d19_1 rfl (l' := #[rv r0, iv x1, iv 0, .unset]) rfl ?_
  refine o_aloadN Y0 hx hby d19_2 rfl rfl ?_
  refine p_len Y0 hx hZ A (z := ln) (own_tolen hln) hby rfl d19_3 ?_
  refine o_istoreN Y0 hx hby d19_4 rfl (l' := #[rv r0, iv x1, iv 0, iv ln]) rfl ?_
  show own_Ends _ _ _ _ (T0.setTop (mkF m 5 #[rv r0, iv x1, iv 0, iv ln] []))
  have hL2178 : ∀ (k : Nat) (T2179 : State) (h2181 : Heap) (i : Nat) (j : Int32) (zs : List Int32) (Y2180 : own_S p l e ({ frames := 0, cells := 0, slots := 0, locals := 0 } : Room) s m #[(.ref r0), (.int x1)] below meth c n0 T2179 h2181 0 0) (z2182 : n0 ≤ h2181.size) (f2183 : own_A Z h2181 r0 .int (zs.map Value.int)) (KL : Keep h0 h2181 [r0]) (hj : j.toInt = (i : Int)) (hik : i + k = ys.length) (hzl : zs.length = ys.length) (hz : ∀ q : Nat, q < i → own_g zs q = x1), own_Ends p.tables e below (own_P s n0 (own_Q_own_rm19 Z r0 x1 ys h0 n0) ({ frames := 0, cells := 0, slots := 0, locals := 0 } : Room).cells ({ frames := 0, cells := 0, slots := 0, locals := 0 } : Room).slots) (T2179.setTop (mkF m 5 #[rv r0, iv x1, iv j, iv ln] [])) := by
   intro k
   induction k using Nat.strongRecOn with
   | _ k ih =>
    intro T2179 h2181 i j zs Y2180 z2182 f2183 KL hj hik hzl hz
    obtain ⟨hj0, hj1⟩ := own_nat hj
    refine o_iloadN Y2180 hx hby d19_5 rfl ?_
    refine o_iloadN Y2180 hx hby d19_6 rfl ?_
    by_cases c7_2184 : j < ln
    ·
     refine o_icmpNo Y2180 hx hby d19_7 rfl (XT.ii_ge_f c7_2184) ?_
     show own_Ends _ _ _ _ (T2179.setTop (mkF m 10 #[rv r0, iv x1, iv j, iv ln] []))
     have hlt : i < ys.length := by have := c7_2184; rw [own_lt, hj, hln] at this; omega
     obtain ⟨k', rfl⟩ : ∃ k', k = k' + 1 := ⟨k - 1, by omega⟩
     have hq31 := rng32 ln
     have hz2 : ∀ q : Nat, q < i + 1 → own_g (zs.set i x1) q = x1 := by
       intro q hq
       by_cases e : q = i
       · subst e; simp [own_g, hzl, hlt]
       · have := hz q (by omega); simp only [own_g] at this ⊢; rw [← this]; simp [List.getElem?_set, Ne.symm e]
     refine o_aloadN Y2180 hx hby d19_10 rfl rfl ?_
     refine o_iloadN Y2180 hx hby d19_11 rfl ?_
     refine o_iloadN Y2180 hx hby d19_12 rfl ?_
     refine p_stI Y2180 hx hZ f2183 g (i := i) hj0 hj1 (own_mlen (by omega)) hby rfl d19_13 (fun T2185 h2187 Y2186 W2188 A2189 => ?_)
     show own_Ends _ _ _ _ (T2185.setTop (mkF m 14 #[rv r0, iv x1, iv j, iv ln] []))
     have A2190 : own_A Z h2187 r0 .int ((zs.set i x1).map Value.int) := by have q := A2189; simpa only [List.map_set] using q
     refine o_iinc Y2186 hx hby d19_14 rfl (l' := #[rv r0, iv x1, iv (j + (1 : Int32)), iv ln]) rfl ?_
     refine o_goto Y2186 hx hby (pc' := 5) d19_17 (by decide) (by decide) ?_
     have z2191 : n0 ≤ h2187.size := Nat.le_trans z2182 (Nat.le_of_eq W2188.size.symm)
     have K2192 : Keep h0 h2181 [r0] := KL
     have K2193 : Keep h0 h2187 [r0] := K2192.wr W2188 (Or.inl (List.mem_of_getElem? (i := 0) rfl))
     exact ih k' (by omega) T2185 h2187 (i + 1) ((j + (1 : Int32))) ((zs.set i x1)) Y2186 z2191 A2190 K2193 (own_inc hj (by omega)) (by omega) (by simp [hzl]) hz2
    ·
     refine o_icmpYes Y2180 hx hby (pc' := 20) d19_7 rfl (XT.ii_ge_t c7_2184) (by decide) (by decide) ?_
     have hk0 : k = 0 := by have := c7_2184; rw [own_lt, hj, hln] at this; omega
     have he : zs = List.replicate ys.length x1 := by
       apply List.ext_getElem (by simp [hzl])
       intro q h1 h2
       have := hz q (by omega)
       simp only [own_g, List.getD_eq_getElem?_getD, List.getElem?_eq_getElem h1, Option.getD_some] at this
       simp [this]
     have K2194 : Keep h0 h2181 [r0] := KL
     refine own_retV Y2180 hx hlk hret (hb hby d19_20) (by decide) (by decide) ?_
     exact ⟨rfl, K2194, he ▸ f2183⟩
  exact hL2178 ys.length T0 h0 (0) (0) (ys) Y0 Z0 A (Keep.refl h0 [r0]) rfl (by omega) rfl (fun q hq => absurd hq (Nat.not_lt_zero q))
def own_ni (sn : List Int32) (o v : Int32) : Int32 := if own_at sn o = v then 0 else 1
def own_ns (sn : List Int32) (o v : Int32) : List Int32 := if own_at sn o = v then sn else own_put sn o v
def own_nx (sn nx : List Int32) (o v : Int32) : List Int32 := if own_at sn o = v then nx else own_put nx o (own_at nx o + 1)
def own_nb (sn nx nb : List Int32) (o v : Int32) : List Int32 := if own_at sn o = v then nb else own_put nb (own_at nx o) v
theorem own_putA' {Z : State} {h : Heap} {b : Addr} {es : List Int32} {j v : Int32} (A : own_A Z h b .int ((es.map Value.int).set j.toNatClampNeg (.int v))) : own_A Z h b .int ((own_put es j v).map Value.int) := own_putA rfl A
theorem own_pn5 : plainName "kombos/query/SimpleGraph" = true := by first | (simp [plainName, overriddenIn]; done) | decide +kernel
def bc36 : ByteArray := prog_118_method_3_code
theorem d36_0 : decode bc36 0 = .ok (.aload_n 2, 1) := by decide +kernel
theorem d36_1 : decode bc36 1 = .ok (.iload_n 0, 1) := by decide +kernel
theorem d36_2 : decode bc36 2 = .ok (.iaload, 1) := by decide +kernel
theorem d36_3 : decode bc36 3 = .ok (.iload_n 1, 1) := by decide +kernel
theorem d36_4 : decode bc36 4 = .ok (.if_icmp .ne 5, 3) := by decide +kernel
theorem d36_7 : decode bc36 7 = .ok (.iconst 0, 1) := by decide +kernel
theorem d36_8 : decode bc36 8 = .ok (.ireturn, 1) := by decide +kernel
theorem d36_9 : decode bc36 9 = .ok (.aload_n 2, 1) := by decide +kernel
theorem d36_10 : decode bc36 10 = .ok (.iload_n 0, 1) := by decide +kernel
theorem d36_11 : decode bc36 11 = .ok (.iload_n 1, 1) := by decide +kernel
theorem d36_12 : decode bc36 12 = .ok (.iastore, 1) := by decide +kernel
theorem d36_13 : decode bc36 13 = .ok (.aload_n 3, 1) := by decide +kernel
theorem d36_14 : decode bc36 14 = .ok (.ifnull 15, 3) := by decide +kernel
theorem d36_29 : decode bc36 29 = .ok (.iconst 1, 1) := by decide +kernel
theorem d36_30 : decode bc36 30 = .ok (.ireturn, 1) := by decide +kernel
theorem own_ef_own_rm36_0 (m : MethodId) (x0 : Int32) (x1 : Int32) (r2 : Addr) : entryFrame m #[(.int x0), (.int x1), (.ref r2), .null, .null] 5 = mkF m 0 #[iv x0, iv x1, rv r2, .val .null, .val .null] [] := by first | (simp [entryFrame, mkF, argsToLocals, Value.category]; done) | rfl
def own_Q_own_rm36_0 (Z : State) (x0 x1 : Int32) (r2 : Addr) (sn : List Int32) (h0 : Heap) (n0 : Nat) (v : Option Value) (h : Heap) : Prop := v = some (.int (own_ni sn x0 x1)) ∧ Keep h0 h [r2] ∧ own_A Z h r2 .int ((own_ns sn x0 x1).map Value.int)
set_option maxRecDepth 65536 in
set_option maxHeartbeats 40000000 in
theorem own_rm36_0 (l : Launch) (Z : State) (a0 : Array Value) (hw : ∀ d ∈ tables_1, d.before a0 Z = true) (ws : List Jvm.Cond) (x0 : Int32) (x1 : Int32) (r2 : Addr) (sn : List Int32) (h0 : Heap) (n0 : Nat)  (A2 : own_A Z h0 r2 .int (sn.map Value.int)) (ok1 : own_okb sn x0 = true) (g2 : n0 ≤ r2) :
    own_Con l Z (⟨"kombos/query/SimpleGraph", "note", "(II[I[I[I)I"⟩ : MethodName) prog_118_method_3_code 5 (some .int) ws ({ frames := 0, cells := 0, slots := 0, locals := 0 } : Room) #[(.int x0), (.int x1), (.ref r2), .null, .null] h0 n0 (own_Q_own_rm36_0 Z x0 x1 r2 sn h0 n0) := by
  refine own_body (plainFor_of_name own_pn5) ?_
  intro p e s m below meth c T0 hx hZ hby hml hown hnm hret hlk Y0
  replace hown : s.vm.findClass "kombos/query/SimpleGraph" = some m.cls := hown
  replace hnm : meth.name = "note" := hnm
  rw [own_ef_own_rm36_0 m x0 x1 r2]
  show own_Ends _ _ _ _ (T0.setTop (mkF m 0 #[iv x0, iv x1, rv r2, .val .null, .val .null] []))
  refine o_aloadN Y0 hx hby d36_0 rfl rfl ?_
  refine o_iloadN Y0 hx hby d36_1 rfl ?_
  refine p_ldI Y0 hx hZ A2 (i := (x0).toNatClampNeg) (own_okn ok1).1 rfl (own_mlen (own_okn ok1).2) (v := (.int (own_at sn x0))) (own_mget (own_mlen (own_okn ok1).2)) hby rfl d36_2 ?_
  refine o_iloadN Y0 hx hby d36_3 rfl ?_
  by_cases c4_2195 : (own_at sn x0) = x1
  ·
   refine o_icmpNo Y0 hx hby d36_4 rfl (XT.ii_ne_f c4_2195) ?_
   refine o_iconst Y0 hx hby d36_7 (x := 0) rfl ?_
   have hc := c4_2195
   refine own_retI Y0 hx hlk hret (hb hby d36_8) (by decide) (by decide) ?_
   refine ⟨?_, (Keep.refl h0 [r2]), ?_⟩
   · simp [own_ni, hc]
   · simp only [own_ns, hc, if_true, if_false]; exact A2
  ·
   refine o_icmpYes Y0 hx hby (pc' := 9) d36_4 rfl (XT.ii_ne_t c4_2195) (by decide) (by decide) ?_
   refine o_aloadN Y0 hx hby d36_9 rfl rfl ?_
   refine o_iloadN Y0 hx hby d36_10 rfl ?_
   refine o_iloadN Y0 hx hby d36_11 rfl ?_
   refine p_stI Y0 hx hZ A2 g2 (i := (x0).toNatClampNeg) (own_okn ok1).1 rfl (own_mlen (own_okn ok1).2) hby rfl d36_12 (fun T2196 h2198 Y2197 W2199 A2200 => ?_)
   refine o_aloadN Y2197 hx hby d36_13 rfl rfl ?_
   refine o_ifnullYes Y2197 hx hby (pc' := 29) d36_14 rfl (by decide) (by decide) ?_
   refine o_iconst Y2197 hx hby d36_29 (x := 1) rfl ?_
   have K2201 : Keep h0 h2198 [r2] := (Keep.refl h0 [r2]).wr W2199 (Or.inl (List.mem_of_getElem? (i := 0) rfl))
   have hc := c4_2195
   refine own_retI Y2197 hx hlk hret (hb hby d36_30) (by decide) (by decide) ?_
   refine ⟨?_, K2201, ?_⟩
   · simp [own_ni, hc]
   · simp only [own_ns, hc, if_true, if_false]; exact own_putA' A2200
theorem d36_17 : decode bc36 17 = .ok (.aload_n 3, 1) := by decide +kernel
theorem d36_18 : decode bc36 18 = .ok (.aload 4, 2) := by decide +kernel
theorem d36_20 : decode bc36 20 = .ok (.iload_n 0, 1) := by decide +kernel
theorem d36_21 : decode bc36 21 = .ok (.dup2, 1) := by decide +kernel
theorem d36_22 : decode bc36 22 = .ok (.iaload, 1) := by decide +kernel
theorem d36_23 : decode bc36 23 = .ok (.dup_x2, 1) := by decide +kernel
theorem d36_24 : decode bc36 24 = .ok (.iconst 1, 1) := by decide +kernel
theorem d36_25 : decode bc36 25 = .ok (.iadd, 1) := by decide +kernel
theorem d36_26 : decode bc36 26 = .ok (.iastore, 1) := by decide +kernel
theorem d36_27 : decode bc36 27 = .ok (.iload_n 1, 1) := by decide +kernel
theorem d36_28 : decode bc36 28 = .ok (.iastore, 1) := by decide +kernel
theorem own_ef_own_rm36_1 (m : MethodId) (x0 : Int32) (x1 : Int32) (r2 : Addr) (r3 : Addr) (r4 : Addr) : entryFrame m #[(.int x0), (.int x1), (.ref r2), (.ref r3), (.ref r4)] 5 = mkF m 0 #[iv x0, iv x1, rv r2, rv r3, rv r4] [] := by first | (simp [entryFrame, mkF, argsToLocals, Value.category]; done) | rfl
def own_Q_own_rm36_1 (Z : State) (x0 x1 : Int32) (r2 r3 r4 : Addr) (sn nx nb : List Int32) (h0 : Heap) (n0 : Nat) (v : Option Value) (h : Heap) : Prop := v = some (.int (own_ni sn x0 x1)) ∧ Keep h0 h [r2, r3, r4] ∧ own_A Z h r2 .int ((own_ns sn x0 x1).map Value.int) ∧ own_A Z h r3 .int ((own_nb sn nx nb x0 x1).map Value.int) ∧ own_A Z h r4 .int ((own_nx sn nx x0 x1).map Value.int)
set_option maxRecDepth 65536 in
set_option maxHeartbeats 40000000 in
theorem own_rm36_1 (l : Launch) (Z : State) (a0 : Array Value) (hw : ∀ d ∈ tables_1, d.before a0 Z = true) (ws : List Jvm.Cond) (x0 : Int32) (x1 : Int32) (r2 : Addr) (r3 : Addr) (r4 : Addr) (sn nx nb : List Int32) (h0 : Heap) (n0 : Nat)  (A2 : own_A Z h0 r2 .int (sn.map Value.int)) (A3 : own_A Z h0 r3 .int (nb.map Value.int)) (A4 : own_A Z h0 r4 .int (nx.map Value.int)) (ok1 : own_okb sn x0 = true) (hok : ¬ own_at sn x0 = x1 → own_okb nx x0 = true ∧ own_okb nb (own_at nx x0) = true) (g2 : n0 ≤ r2) (g3 : n0 ≤ r3) (g4 : n0 ≤ r4) (m23 : r2 ≠ r3) (m24 : r2 ≠ r4) (m34 : r3 ≠ r4) :
    own_Con l Z (⟨"kombos/query/SimpleGraph", "note", "(II[I[I[I)I"⟩ : MethodName) prog_118_method_3_code 5 (some .int) ws ({ frames := 0, cells := 0, slots := 0, locals := 0 } : Room) #[(.int x0), (.int x1), (.ref r2), (.ref r3), (.ref r4)] h0 n0 (own_Q_own_rm36_1 Z x0 x1 r2 r3 r4 sn nx nb h0 n0) := by
  refine own_body (plainFor_of_name own_pn5) ?_
  intro p e s m below meth c T0 hx hZ hby hml hown hnm hret hlk Y0
  replace hown : s.vm.findClass "kombos/query/SimpleGraph" = some m.cls := hown
  replace hnm : meth.name = "note" := hnm
  rw [own_ef_own_rm36_1 m x0 x1 r2 r3 r4]
  show own_Ends _ _ _ _ (T0.setTop (mkF m 0 #[iv x0, iv x1, rv r2, rv r3, rv r4] []))
  refine o_aloadN Y0 hx hby d36_0 rfl rfl ?_
  refine o_iloadN Y0 hx hby d36_1 rfl ?_
  refine p_ldI Y0 hx hZ A2 (i := (x0).toNatClampNeg) (own_okn ok1).1 rfl (own_mlen (own_okn ok1).2) (v := (.int (own_at sn x0))) (own_mget (own_mlen (own_okn ok1).2)) hby rfl d36_2 ?_
  refine o_iloadN Y0 hx hby d36_3 rfl ?_
  by_cases c4_2202 : (own_at sn x0) = x1
  ·
   refine o_icmpNo Y0 hx hby d36_4 rfl (XT.ii_ne_f c4_2202) ?_
   refine o_iconst Y0 hx hby d36_7 (x := 0) rfl ?_
   have hc := c4_2202
   refine own_retI Y0 hx hlk hret (hb hby d36_8) (by decide) (by decide) ?_
   refine ⟨?_, (Keep.refl h0 [r2, r3, r4]), ?_, ?_, ?_⟩
   · simp [own_ni, hc]
   · simp only [own_ns, hc, if_true, if_false]; exact A2
   · simp only [own_nb, hc, if_true, if_false]; exact A3
   · simp only [own_nx, hc, if_true, if_false]; exact A4
  ·
   refine o_icmpYes Y0 hx hby (pc' := 9) d36_4 rfl (XT.ii_ne_t c4_2202) (by decide) (by decide) ?_
   show own_Ends _ _ _ _ (T0.setTop (mkF m 9 #[iv x0, iv x1, rv r2, rv r3, rv r4] []))
   obtain ⟨ok2, ok3⟩ := hok c4_2202
   refine o_aloadN Y0 hx hby d36_9 rfl rfl ?_
   refine o_iloadN Y0 hx hby d36_10 rfl ?_
   refine o_iloadN Y0 hx hby d36_11 rfl ?_
   refine p_stI Y0 hx hZ A2 g2 (i := (x0).toNatClampNeg) (own_okn ok1).1 rfl (own_mlen (own_okn ok1).2) hby rfl d36_12 (fun T2203 h2205 Y2204 W2206 A2207 => ?_)
   refine o_aloadN Y2204 hx hby d36_13 rfl rfl ?_
   refine o_ifnullNo Y2204 hx hby d36_14 rfl ?_
   refine o_aloadN Y2204 hx hby d36_17 rfl rfl ?_
   refine o_aload Y2204 hx hby d36_18 rfl rfl ?_
   refine o_iloadN Y2204 hx hby d36_20 rfl ?_
   refine o_dup2 Y2204 hx hby d36_21 rfl rfl rfl ?_
   have f2208 := A4.other W2206 (Ne.symm m24)
   refine p_ldI Y2204 hx hZ f2208 (i := (x0).toNatClampNeg) (own_okn ok2).1 rfl (own_mlen (own_okn ok2).2) (v := (.int (own_at nx x0))) (own_mget (own_mlen (own_okn ok2).2)) hby rfl d36_22 ?_
   refine own_st (fun t_ => own_dupX2 (own_here Y2204) hx rfl (hb hby d36_23) rfl rfl rfl rfl) ?_
   show own_Ends _ _ _ _ (T2203.setTop (mkF m 24 #[iv x0, iv x1, rv r2, rv r3, rv r4] [(.int (own_at nx x0)), (.int x0), (.ref r4), (.int (own_at nx x0)), (.ref r3)]))
   refine o_iconst Y2204 hx hby d36_24 (x := 1) rfl ?_
   refine o_iadd Y2204 hx hby d36_25 rfl rfl ?_
   refine p_stI Y2204 hx hZ f2208 g4 (i := (x0).toNatClampNeg) (own_okn ok2).1 rfl (own_mlen (own_okn ok2).2) hby rfl d36_26 (fun T2209 h2211 Y2210 W2212 A2213 => ?_)
   refine o_iloadN Y2210 hx hby d36_27 rfl ?_
   have f2214 := A3.other W2206 (Ne.symm m23)
   have f2215 := f2214.other W2212 m34
   refine p_stI Y2210 hx hZ f2215 g3 (i := ((own_at nx x0)).toNatClampNeg) (own_okn ok3).1 rfl (own_mlen (own_okn ok3).2) hby rfl d36_28 (fun T2216 h2218 Y2217 W2219 A2220 => ?_)
   refine o_iconst Y2217 hx hby d36_29 (x := 1) rfl ?_
   have K2221 : Keep h0 h2205 [r2, r3, r4] := (Keep.refl h0 [r2, r3, r4]).wr W2206 (Or.inl (List.mem_of_getElem? (i := 0) rfl))
   have K2222 : Keep h0 h2211 [r2, r3, r4] := K2221.wr W2212 (Or.inl (List.mem_of_getElem? (i := 2) rfl))
   have K2223 : Keep h0 h2218 [r2, r3, r4] := K2222.wr W2219 (Or.inl (List.mem_of_getElem? (i := 1) rfl))
   have f2224 := A2207.other W2212 m24
   have f2225 := f2224.other W2219 m23
   have f2226 := A2213.other W2219 (Ne.symm m34)
   have hc := c4_2202
   refine own_retI Y2217 hx hlk hret (hb hby d36_30) (by decide) (by decide) ?_
   refine ⟨?_, K2223, ?_, ?_, ?_⟩
   · simp [own_ni, hc]
   · simp only [own_ns, hc, if_true, if_false]; exact own_putA' f2225
   · simp only [own_nb, hc, if_true, if_false]; exact own_putA' A2220
   · simp only [own_nx, hc, if_true, if_false]; exact own_putA' f2226
def bc23 : ByteArray := jdk_65_method_123_code
theorem d23_0 : decode bc23 0 = .ok (.iload_n 1, 1) := by decide +kernel
theorem d23_1 : decode bc23 1 = .ok (.aload_n 0, 1) := by decide +kernel
theorem d23_2 : decode bc23 2 = .ok (.arraylength, 1) := by decide +kernel
theorem d23_3 : decode bc23 3 = .ok (.if_icmp .ne 11, 3) := by decide +kernel
theorem d23_14 : decode bc23 14 = .ok (.iload_n 1, 1) := by decide +kernel
theorem d23_15 : decode bc23 15 = .ok (.newarray .int, 2) := by decide +kernel
theorem d23_17 : decode bc23 17 = .ok (.astore_n 2, 1) := by decide +kernel
theorem d23_18 : decode bc23 18 = .ok (.aload_n 0, 1) := by decide +kernel
theorem d23_19 : decode bc23 19 = .ok (.iconst 0, 1) := by decide +kernel
theorem d23_20 : decode bc23 20 = .ok (.aload_n 2, 1) := by decide +kernel
theorem d23_21 : decode bc23 21 = .ok (.iconst 0, 1) := by decide +kernel
theorem d23_22 : decode bc23 22 = .ok (.aload_n 0, 1) := by decide +kernel
theorem d23_23 : decode bc23 23 = .ok (.arraylength, 1) := by decide +kernel
theorem d23_24 : decode bc23 24 = .ok (.iload_n 1, 1) := by decide +kernel
theorem d23_25 : decode bc23 25 = .ok (.invokestatic 304, 3) := by decide +kernel
theorem d23_28 : decode bc23 28 = .ok (.invokestatic 150, 3) := by decide +kernel
theorem d23_31 : decode bc23 31 = .ok (.aload_n 2, 1) := by decide +kernel
theorem d23_32 : decode bc23 32 = .ok (.areturn, 1) := by decide +kernel
theorem own_ef_own_rm23 (m : MethodId) (r0 : Addr) : entryFrame m #[(.ref r0), (.int 3)] 3 = mkF m 0 #[rv r0, iv 3, .unset] [] := by first | (simp [entryFrame, mkF, argsToLocals, Value.category]; done) | rfl
def own_Q_own_rm23 (Z : State) (t0 t1 t2 : Int32) (h0 : Heap) (n0 : Nat) (v : Option Value) (h : Heap) : Prop := ∃ b : Addr, v = some (.ref b) ∧ Keep h0 h [] ∧ own_A Z h b .int ([t0, t1, t2].map Value.int) ∧ h0.size ≤ b
set_option maxRecDepth 65536 in
set_option maxHeartbeats 40000000 in
theorem own_rm23 (l : Launch) (Z : State) (a0 : Array Value) (hw : ∀ d ∈ tables_1, d.before a0 Z = true) (ws : List Jvm.Cond) (r0 : Addr) (t0 t1 t2 t3 : Int32) (h0 : Heap) (n0 : Nat) (Z0 : n0 ≤ h0.size) (A : own_A Z h0 r0 .int [(.int t0), (.int t1), (.int t2), (.int t3)]) :
    own_Con l Z (⟨"java/util/Arrays", "copyOf", "([II)[I"⟩ : MethodName) jdk_65_method_123_code 3 (some (.array .int)) ws ({ frames := 1, cells := 1, slots := 3, locals := 64 } : Room) #[(.ref r0), (.int 3)] h0 n0 (own_Q_own_rm23 Z t0 t1 t2 h0 n0) := by
  refine own_body (plainFor_of_name own_pn4) ?_
  intro p e s m below meth c T0 hx hZ hby hml hown hnm hret hlk Y0
  replace hown : s.vm.findClass "java/util/Arrays" = some m.cls := hown
  replace hnm : meth.name = "copyOf" := hnm
  rw [own_ef_own_rm23 m r0]
  show own_Ends _ _ _ _ (T0.setTop (mkF m 0 #[rv r0, iv 3, .unset] []))
  refine o_iloadN Y0 hx hby d23_0 rfl ?_
  refine o_aloadN Y0 hx hby d23_1 rfl rfl ?_
  refine p_len Y0 hx hZ A (z := (4 : Int32)) rfl hby rfl d23_2 ?_
  refine o_icmpYes Y0 hx hby (pc' := 14) d23_3 rfl (XT.ii_ne_t (by decide)) (by decide) (by decide) ?_
  refine o_iloadN Y0 hx hby d23_14 rfl ?_
  refine own_newP Y0 hx hZ (own_w hw 99 rfl) rfl (hb hby d23_15) rfl (by decide) (nz := 3) (cap := 3) (by decide) (by decide) (by decide) (by decide) (by decide) (ty := .int) rfl (fun T2227 h2229 b2232 eb2233 Y2228 E2230 A2231 => ?_)
  have ne2234 : r0 ≠ b2232 := Nat.ne_of_lt (by rw [eb2233]; exact A.lt)
  have g2235 : n0 ≤ b2232 := by rw [eb2233]; exact Z0
  replace A2231 : own_A Z h2229 b2232 .int [(.int 0), (.int 0), (.int 0)] := A2231
  show own_Ends _ _ _ _ (T2227.setTop (mkF m 17 #[rv r0, iv 3, .unset] [(.ref b2232)]))
  refine o_astoreN Y2228 hx hby d23_17 rfl rfl (l' := #[rv r0, iv 3, rv b2232]) rfl ?_
  refine o_aloadN Y2228 hx hby d23_18 rfl rfl ?_
  refine o_iconst Y2228 hx hby d23_19 (x := 0) rfl ?_
  refine o_aloadN Y2228 hx hby d23_20 rfl rfl ?_
  refine o_iconst Y2228 hx hby d23_21 (x := 0) rfl ?_
  refine o_aloadN Y2228 hx hby d23_22 rfl rfl ?_
  have f2236 := A.ext E2230
  refine p_len Y2228 hx hZ f2236 (z := (4 : Int32)) rfl hby rfl d23_23 ?_
  refine o_iloadN Y2228 hx hby d23_24 rfl ?_
  refine own_callS Y2228 hx hZ (y := (⟨"java/lang/Math", "min", "(II)I"⟩ : MethodName)) hown (own_w hw 184 rfl) (own_w hw 185 rfl) (own_w hw 178 rfl) (own_w hw 186 rfl) (by decide) (argsL := [(.int 4), (.int 3)]) (rest := [(.int 0), (.ref b2232), (.int 0), (.ref r0)]) (own_rm24 l Z a0 hw [] (4 : Int32) (3 : Int32)  h2229 n0  ) (W := 4) (by decide) (by decide) (by decide) (by decide) rfl (by rw [hml]; rfl) (lenOf own_pd5 rfl) rfl (by show 2 * 0 + _ ≤ _; exact Nat.le_of_eq rfl) (hb hby d23_25) (fun T2237 h2239 v2240 Y2238 q2241 => ?_)
  obtain ⟨rfl, rfl⟩ := q2241
  show own_Ends _ _ _ _ (T2237.setTop (mkF m 28 #[rv r0, iv 3, rv b2232] [(.int (own_min (4 : Int32) (3 : Int32))), (.int 0), (.ref b2232), (.int 0), (.ref r0)]))
  refine own_copy Y2238 hx hZ hown (own_w hw 187 rfl) (own_w hw 105 rfl) (own_w hw 103 rfl) (own_w hw 104 rfl) (a := r0) (b := b2232) (xs := [t0, t1, t2, t3]) (ys := [0, 0, 0]) (zs := [t0, t1, t2]) f2236 A2231 (sN := 0) (dN := 0) (nN := 3) own_l0 own_l0 (show (own_min 4 3).toInt = ((3 : Nat) : Int) by decide) (Nat.le_of_ble_eq_true rfl) (Nat.le_of_ble_eq_true rfl) rfl rfl g2235 rfl (by rw [hml]; rfl) rfl (hb hby d23_28) (by decide) (W := 0) (by show 2 * 0 + _ ≤ _; exact Nat.le_of_eq rfl) (by decide) (fun T2242 h2244 Y2243 K2245 A2246 => ?_)
  show own_Ends _ _ _ _ (T2242.setTop (mkF m 31 #[rv r0, iv 3, rv b2232] []))
  refine o_aloadN Y2243 hx hby d23_31 rfl rfl ?_
  have K2247 : Keep h0 h2229 [] := (Keep.refl h0 []).ext E2230
  have K2248 : Keep h0 h2244 [] := K2247.trans K2245 (allS (Or.inr (by rw [eb2233]; exact (Keep.refl h0 []).1)) all0)
  refine own_retA Y2243 hx hlk hret rfl rfl rfl (hb hby d23_32) (by decide) (by decide) ?_
  exact ⟨_, rfl, K2248, A2246, (by rw [eb2233]; exact (Keep.refl h0 []).1)⟩
def bc25 : ByteArray := prog_118_method_1_code
theorem d25_0 : decode bc25 0 = .ok (.aload_n 0, 1) := by decide +kernel
theorem d25_1 : decode bc25 1 = .ok (.invokespecial 1, 3) := by decide +kernel
theorem d25_4 : decode bc25 4 = .ok (.aload_n 0, 1) := by decide +kernel
theorem d25_5 : decode bc25 5 = .ok (.aload_n 1, 1) := by decide +kernel
theorem d25_6 : decode bc25 6 = .ok (.putfield 7, 3) := by decide +kernel
theorem d25_9 : decode bc25 9 = .ok (.aload_n 0, 1) := by decide +kernel
theorem d25_10 : decode bc25 10 = .ok (.aload_n 2, 1) := by decide +kernel
theorem d25_11 : decode bc25 11 = .ok (.putfield 13, 3) := by decide +kernel
theorem d25_14 : decode bc25 14 = .ok (.aload_n 0, 1) := by decide +kernel
theorem d25_15 : decode bc25 15 = .ok (.aload_n 3, 1) := by decide +kernel
theorem d25_16 : decode bc25 16 = .ok (.putfield 16, 3) := by decide +kernel
theorem d25_19 : decode bc25 19 = .ok (.aload_n 0, 1) := by decide +kernel
theorem d25_20 : decode bc25 20 = .ok (.aload 4, 2) := by decide +kernel
theorem d25_22 : decode bc25 22 = .ok (.putfield 19, 3) := by decide +kernel
theorem d25_25 : decode bc25 25 = .ok (.aload_n 0, 1) := by decide +kernel
theorem d25_26 : decode bc25 26 = .ok (.lload 5, 2) := by decide +kernel
theorem d25_28 : decode bc25 28 = .ok (.putfield 22, 3) := by decide +kernel
theorem d25_31 : decode bc25 31 = .ok (.aload_n 0, 1) := by decide +kernel
theorem d25_32 : decode bc25 32 = .ok (.iload 7, 2) := by decide +kernel
theorem d25_34 : decode bc25 34 = .ok (.putfield 26, 3) := by decide +kernel
theorem d25_37 : decode bc25 37 = .ok (.return_, 1) := by decide +kernel
theorem own_ef_own_rm25 (m : MethodId) (r0 : Addr) (r1 : Addr) (r2 : Addr) (r3 : Addr) (r4 : Addr) (x5 : Int64) (x6 : Int32) : entryFrame m #[(.ref r0), (.ref r1), (.ref r2), (.ref r3), (.ref r4), (.long x5), (.int x6)] 8 = mkF m 0 #[rv r0, rv r1, rv r2, rv r3, rv r4, .val (.long x5), .second, iv x6] [] := by first | (simp [entryFrame, mkF, argsToLocals, Value.category]; done) | rfl
def own_Q_own_rm25 (Z : State) (r0 r1 r2 r3 r4 : Addr) (h0 : Heap) (n0 : Nat) (v : Option Value) (h : Heap) : Prop := v = none ∧ Keep h0 h [r0] ∧ Exa Z h r0 "kombos/query/SimpleGraph" ∧ Fld Z h r0 "kombos/query/SimpleGraph" "edgeStart" "[I" (.ref r1) ∧ Fld Z h r0 "kombos/query/SimpleGraph" "neighbour" "[I" (.ref r2) ∧ Fld Z h r0 "kombos/query/SimpleGraph" "edgeWeight" "[I" (.ref r3) ∧ Fld Z h r0 "kombos/query/SimpleGraph" "vertexWeight" "[I" (.ref r4)
set_option maxRecDepth 65536 in
set_option maxHeartbeats 40000000 in
theorem own_rm25 (l : Launch) (Z : State) (a0 : Array Value) (hw : ∀ d ∈ tables_1, d.before a0 Z = true) (ws : List Jvm.Cond) (r0 : Addr) (r1 : Addr) (r2 : Addr) (r3 : Addr) (r4 : Addr) (x5 : Int64) (x6 : Int32)  (h0 : Heap) (n0 : Nat)  (Eg : Exa Z h0 r0 "kombos/query/SimpleGraph") (Fg_edgeStart : Fld Z h0 r0 "kombos/query/SimpleGraph" "edgeStart" "[I" .null) (Fg_neighbour : Fld Z h0 r0 "kombos/query/SimpleGraph" "neighbour" "[I" .null) (Fg_edgeWeight : Fld Z h0 r0 "kombos/query/SimpleGraph" "edgeWeight" "[I" .null) (Fg_vertexWeight : Fld Z h0 r0 "kombos/query/SimpleGraph" "vertexWeight" "[I" .null) (Fg_totalWeight : Fld Z h0 r0 "kombos/query/SimpleGraph" "totalWeight" "J" (.long 0)) (Fg_maxVertexWeight : Fld Z h0 r0 "kombos/query/SimpleGraph" "maxVertexWeight" "I" (.int 0)) (g : n0 ≤ r0) :
    own_Con l Z (⟨"kombos/query/SimpleGraph", "<init>", "([I[I[I[IJI)V"⟩ : MethodName) prog_118_method_1_code 8 none ws ({ frames := 1, cells := 0, slots := 0, locals := 12 } : Room) #[(.ref r0), (.ref r1), (.ref r2), (.ref r3), (.ref r4), (.long x5), (.int x6)] h0 n0 (own_Q_own_rm25 Z r0 r1 r2 r3 r4 h0 n0) := by
  refine own_body (plainFor_of_name own_pn5) ?_
  intro p e s m below meth c T0 hx hZ hby hml hown hnm hret hlk Y0
  replace hown : s.vm.findClass "kombos/query/SimpleGraph" = some m.cls := hown
  replace hnm : meth.name = "<init>" := hnm
  rw [own_ef_own_rm25 m r0 r1 r2 r3 r4 x5 x6]
  show own_Ends _ _ _ _ (T0.setTop (mkF m 0 #[rv r0, rv r1, rv r2, rv r3, rv r4, .val (.long x5), .second, iv x6] []))
  refine o_aloadN Y0 hx hby d25_0 rfl rfl ?_
  refine own_initO Y0 hx hZ hown (own_w hw 193 rfl) (own_w hw 12 rfl) (own_w hw 13 rfl) rfl (by rw [hml]; rfl) rfl (hb hby d25_1) (by decide) (W := 0) (by show 2 * 0 + _ ≤ _; exact Nat.le_of_eq rfl) (by decide) (fun T2249 Y2250 => ?_)
  show own_Ends _ _ _ _ (T2249.setTop (mkF m 4 #[rv r0, rv r1, rv r2, rv r3, rv r4, .val (.long x5), .second, iv x6] []))
  refine o_aloadN Y2250 hx hby d25_4 rfl rfl ?_
  refine o_aloadN Y2250 hx hby d25_5 rfl rfl ?_
  refine p_putF Y2250 hx hZ hown (host := "") (Or.inl (own_w hw 194 rfl)) Via.refl Fg_edgeStart Eg (Or.inr ⟨(own_w hw 195 rfl), rfl, hnm⟩) (own_w hw 189 rfl) g (ty := (.array .int)) (by decide) rfl rfl hby rfl d25_6 (fun T2251 h2253 Y2252 W2254 F2255 => ?_)
  refine o_aloadN Y2252 hx hby d25_9 rfl rfl ?_
  refine o_aloadN Y2252 hx hby d25_10 rfl rfl ?_
  have f2256 := Eg.wr W2254
  have f2257 := own_sn Fg_neighbour W2254 (own_wf hw 197 rfl) (own_wf hw 195 rfl) (by decide) own_f3 own_f3
  refine p_putF Y2252 hx hZ hown (host := "") (Or.inl (own_w hw 196 rfl)) Via.refl f2257 f2256 (Or.inr ⟨(own_w hw 197 rfl), rfl, hnm⟩) (own_w hw 189 rfl) g (ty := (.array .int)) (by decide) rfl rfl hby rfl d25_11 (fun T2258 h2260 Y2259 W2261 F2262 => ?_)
  refine o_aloadN Y2259 hx hby d25_14 rfl rfl ?_
  refine o_aloadN Y2259 hx hby d25_15 rfl rfl ?_
  have f2263 := f2256.wr W2261
  have f2264 := own_sn Fg_edgeWeight W2254 (own_wf hw 199 rfl) (own_wf hw 195 rfl) (by decide) own_f3 own_f3
  have f2265 := own_sn f2264 W2261 (own_wf hw 199 rfl) (own_wf hw 197 rfl) (by decide) own_f3 own_f3
  refine p_putF Y2259 hx hZ hown (host := "") (Or.inl (own_w hw 198 rfl)) Via.refl f2265 f2263 (Or.inr ⟨(own_w hw 199 rfl), rfl, hnm⟩) (own_w hw 189 rfl) g (ty := (.array .int)) (by decide) rfl rfl hby rfl d25_16 (fun T2266 h2268 Y2267 W2269 F2270 => ?_)
  refine o_aloadN Y2267 hx hby d25_19 rfl rfl ?_
  refine o_aload Y2267 hx hby d25_20 rfl rfl ?_
  have f2271 := f2263.wr W2269
  have f2272 := own_sn Fg_vertexWeight W2254 (own_wf hw 201 rfl) (own_wf hw 195 rfl) (by decide) own_f3 own_f3
  have f2273 := own_sn f2272 W2261 (own_wf hw 201 rfl) (own_wf hw 197 rfl) (by decide) own_f3 own_f3
  have f2274 := own_sn f2273 W2269 (own_wf hw 201 rfl) (own_wf hw 199 rfl) (by decide) own_f3 own_f3
  refine p_putF Y2267 hx hZ hown (host := "") (Or.inl (own_w hw 200 rfl)) Via.refl f2274 f2271 (Or.inr ⟨(own_w hw 201 rfl), rfl, hnm⟩) (own_w hw 189 rfl) g (ty := (.array .int)) (by decide) rfl rfl hby rfl d25_22 (fun T2275 h2277 Y2276 W2278 F2279 => ?_)
  refine o_aloadN Y2276 hx hby d25_25 rfl rfl ?_
  refine o_lload Y2276 hx hby d25_26 rfl ?_
  have f2280 := f2271.wr W2278
  have f2281 := own_sn Fg_totalWeight W2254 (own_wf hw 203 rfl) (own_wf hw 195 rfl) (by decide) own_f2 own_f3
  have f2282 := own_sn f2281 W2261 (own_wf hw 203 rfl) (own_wf hw 197 rfl) (by decide) own_f2 own_f3
  have f2283 := own_sn f2282 W2269 (own_wf hw 203 rfl) (own_wf hw 199 rfl) (by decide) own_f2 own_f3
  have f2284 := own_sn f2283 W2278 (own_wf hw 203 rfl) (own_wf hw 201 rfl) (by decide) own_f2 own_f3
  refine p_putF Y2276 hx hZ hown (host := "") (Or.inl (own_w hw 202 rfl)) Via.refl f2284 f2280 (Or.inr ⟨(own_w hw 203 rfl), rfl, hnm⟩) (own_w hw 189 rfl) g (ty := .long) (by decide) rfl rfl hby rfl d25_28 (fun T2285 h2287 Y2286 W2288 F2289 => ?_)
  refine o_aloadN Y2286 hx hby d25_31 rfl rfl ?_
  refine o_iload Y2286 hx hby d25_32 rfl ?_
  have f2290 := f2280.wr W2288
  have f2291 := own_sn Fg_maxVertexWeight W2254 (own_wf hw 205 rfl) (own_wf hw 195 rfl) (by decide) own_f1 own_f3
  have f2292 := own_sn f2291 W2261 (own_wf hw 205 rfl) (own_wf hw 197 rfl) (by decide) own_f1 own_f3
  have f2293 := own_sn f2292 W2269 (own_wf hw 205 rfl) (own_wf hw 199 rfl) (by decide) own_f1 own_f3
  have f2294 := own_sn f2293 W2278 (own_wf hw 205 rfl) (own_wf hw 201 rfl) (by decide) own_f1 own_f3
  have f2295 := own_sn f2294 W2288 (own_wf hw 205 rfl) (own_wf hw 203 rfl) (by decide) own_f1 own_f2
  refine p_putF Y2286 hx hZ hown (host := "") (Or.inl (own_w hw 204 rfl)) Via.refl f2295 f2290 (Or.inr ⟨(own_w hw 205 rfl), rfl, hnm⟩) (own_w hw 189 rfl) g (ty := .int) (by decide) rfl rfl hby rfl d25_34 (fun T2296 h2298 Y2297 W2299 F2300 => ?_)
  have K2301 : Keep h0 h2253 [r0] := (Keep.refl h0 [r0]).wr W2254 (Or.inl (List.mem_of_getElem? (i := 0) rfl))
  have K2302 : Keep h0 h2260 [r0] := K2301.wr W2261 (Or.inl (List.mem_of_getElem? (i := 0) rfl))
  have K2303 : Keep h0 h2268 [r0] := K2302.wr W2269 (Or.inl (List.mem_of_getElem? (i := 0) rfl))
  have K2304 : Keep h0 h2277 [r0] := K2303.wr W2278 (Or.inl (List.mem_of_getElem? (i := 0) rfl))
  have K2305 : Keep h0 h2287 [r0] := K2304.wr W2288 (Or.inl (List.mem_of_getElem? (i := 0) rfl))
  have K2306 : Keep h0 h2298 [r0] := K2305.wr W2299 (Or.inl (List.mem_of_getElem? (i := 0) rfl))
  have f2307 := f2290.wr W2299
  have f2308 := own_sn F2255 W2261 (own_wf hw 195 rfl) (own_wf hw 197 rfl) (by decide) own_f3 own_f3
  have f2309 := own_sn f2308 W2269 (own_wf hw 195 rfl) (own_wf hw 199 rfl) (by decide) own_f3 own_f3
  have f2310 := own_sn f2309 W2278 (own_wf hw 195 rfl) (own_wf hw 201 rfl) (by decide) own_f3 own_f3
  have f2311 := own_sn f2310 W2288 (own_wf hw 195 rfl) (own_wf hw 203 rfl) (by decide) own_f3 own_f2
  have f2312 := own_sn f2311 W2299 (own_wf hw 195 rfl) (own_wf hw 205 rfl) (by decide) own_f3 own_f1
  have f2313 := own_sn F2262 W2269 (own_wf hw 197 rfl) (own_wf hw 199 rfl) (by decide) own_f3 own_f3
  have f2314 := own_sn f2313 W2278 (own_wf hw 197 rfl) (own_wf hw 201 rfl) (by decide) own_f3 own_f3
  have f2315 := own_sn f2314 W2288 (own_wf hw 197 rfl) (own_wf hw 203 rfl) (by decide) own_f3 own_f2
  have f2316 := own_sn f2315 W2299 (own_wf hw 197 rfl) (own_wf hw 205 rfl) (by decide) own_f3 own_f1
  have f2317 := own_sn F2270 W2278 (own_wf hw 199 rfl) (own_wf hw 201 rfl) (by decide) own_f3 own_f3
  have f2318 := own_sn f2317 W2288 (own_wf hw 199 rfl) (own_wf hw 203 rfl) (by decide) own_f3 own_f2
  have f2319 := own_sn f2318 W2299 (own_wf hw 199 rfl) (own_wf hw 205 rfl) (by decide) own_f3 own_f1
  have f2320 := own_sn F2279 W2288 (own_wf hw 201 rfl) (own_wf hw 203 rfl) (by decide) own_f3 own_f2
  have f2321 := own_sn f2320 W2299 (own_wf hw 201 rfl) (own_wf hw 205 rfl) (by decide) own_f3 own_f1
  refine own_retV Y2297 hx hlk hret (hb hby d25_37) (by decide) (by decide) ?_
  exact ⟨rfl, K2306, f2307, f2312, f2316, f2319, f2321⟩
def own_i0 (GG : List Int32) (v : Int32) : Nat → Nat → List Int32 → Int32 → Option (List Int32 × Int32)
  | 0, _, sn, c => some (sn, c)
  | f + 1, i, sn, c => if i < GG.length ∧ own_okb sn (own_g GG i) = true then own_i0 GG v f (i + 1) (own_ns sn (own_g GG i) v) (c + own_ni sn (own_g GG i) v) else none
theorem own_i0_inv {GG sn : List Int32} {v c : Int32} {R : List Int32 × Int32} {f i : Nat} (h : own_i0 GG v (f + 1) i sn c = some R) : i < GG.length ∧ own_okb sn (own_g GG i) = true ∧ own_i0 GG v f (i + 1) (own_ns sn (own_g GG i) v) (c + own_ni sn (own_g GG i) v) = some R := by
  simp only [own_i0] at h
  split at h
  · rename_i q; exact ⟨q.1, q.2, h⟩
  · cases h
def own_i1 (GG : List Int32) (v : Int32) : Nat → Nat → List Int32 → List Int32 → List Int32 → Int32 → Option (List Int32 × List Int32 × List Int32 × Int32)
  | 0, _, sn, nx, nb, c => some (sn, nx, nb, c)
  | f + 1, i, sn, nx, nb, c => if i < GG.length ∧ own_okb sn (own_g GG i) = true ∧ (own_at sn (own_g GG i) = v ∨ (own_okb nx (own_g GG i) = true ∧ own_okb nb (own_at nx (own_g GG i)) = true)) then own_i1 GG v f (i + 1) (own_ns sn (own_g GG i) v) (own_nx sn nx (own_g GG i) v) (own_nb sn nx nb (own_g GG i) v) (c + own_ni sn (own_g GG i) v) else none
theorem own_i1_inv {GG sn nx nb : List Int32} {v c : Int32} {R : List Int32 × List Int32 × List Int32 × Int32} {f i : Nat} (h : own_i1 GG v (f + 1) i sn nx nb c = some R) : i < GG.length ∧ own_okb sn (own_g GG i) = true ∧ (¬ own_at sn (own_g GG i) = v → own_okb nx (own_g GG i) = true ∧ own_okb nb (own_at nx (own_g GG i)) = true) ∧ own_i1 GG v f (i + 1) (own_ns sn (own_g GG i) v) (own_nx sn nx (own_g GG i) v) (own_nb sn nx nb (own_g GG i) v) (c + own_ni sn (own_g GG i) v) = some R := by
  simp only [own_i1] at h
  split at h
  · rename_i q; exact ⟨q.1, q.2.1, fun z => q.2.2.resolve_left z, h⟩
  · cases h
theorem own_pd12 : parseMethodDescriptor "()Z" = some ⟨[], some .boolean⟩ := by decide +kernel
theorem own_pd13 : parseMethodDescriptor "(II[I[I[I)I" = some ⟨[.int, .int, (.array .int), (.array .int), (.array .int)], some .int⟩ := by decide +kernel
theorem own_pd14 : parseMethodDescriptor "(JJ)J" = some ⟨[.long, .long], some .long⟩ := by decide +kernel
theorem own_pd15 : parseMethodDescriptor "([II)[I" = some ⟨[(.array .int), .int], some (.array .int)⟩ := by decide +kernel
theorem own_pd16 : parseMethodDescriptor "([I[I[I[IJI)V" = some ⟨[(.array .int), (.array .int), (.array .int), (.array .int), .long, .int], none⟩ := by decide +kernel
def bc16 : ByteArray := prog_118_method_2_code
theorem d16_0 : decode bc16 0 = .ok (.aload_n 0, 1) := by decide +kernel
theorem d16_1 : decode bc16 1 = .ok (.invokevirtual 30, 3) := by decide +kernel
theorem d16_4 : decode bc16 4 = .ok (.istore_n 1, 1) := by decide +kernel
theorem d16_5 : decode bc16 5 = .ok (.aload_n 0, 1) := by decide +kernel
theorem d16_6 : decode bc16 6 = .ok (.invokevirtual 36, 3) := by decide +kernel
theorem d16_9 : decode bc16 9 = .ok (.ifCond .eq 11, 3) := by decide +kernel
theorem d16_20 : decode bc16 20 = .ok (.aconst_null, 1) := by decide +kernel
theorem d16_21 : decode bc16 21 = .ok (.astore_n 2, 1) := by decide +kernel
theorem d16_22 : decode bc16 22 = .ok (.iload_n 1, 1) := by decide +kernel
theorem d16_23 : decode bc16 23 = .ok (.iconst 1, 1) := by decide +kernel
theorem d16_24 : decode bc16 24 = .ok (.iadd, 1) := by decide +kernel
theorem d16_25 : decode bc16 25 = .ok (.newarray .int, 2) := by decide +kernel
theorem d16_27 : decode bc16 27 = .ok (.astore_n 3, 1) := by decide +kernel
theorem d16_28 : decode bc16 28 = .ok (.iload_n 1, 1) := by decide +kernel
theorem d16_29 : decode bc16 29 = .ok (.newarray .int, 2) := by decide +kernel
theorem d16_31 : decode bc16 31 = .ok (.astore 4, 2) := by decide +kernel
theorem d16_33 : decode bc16 33 = .ok (.aconst_null, 1) := by decide +kernel
theorem d16_34 : decode bc16 34 = .ok (.astore 5, 2) := by decide +kernel
theorem d16_36 : decode bc16 36 = .ok (.aconst_null, 1) := by decide +kernel
theorem d16_37 : decode bc16 37 = .ok (.astore 6, 2) := by decide +kernel
theorem d16_39 : decode bc16 39 = .ok (.iconst 0, 1) := by decide +kernel
theorem d16_40 : decode bc16 40 = .ok (.istore 7, 2) := by decide +kernel
theorem d16_42 : decode bc16 42 = .ok (.iload 7, 2) := by decide +kernel
theorem d16_44 : decode bc16 44 = .ok (.iconst 2, 1) := by decide +kernel
theorem d16_45 : decode bc16 45 = .ok (.if_icmp .ge 202, 3) := by decide +kernel
theorem d16_48 : decode bc16 48 = .ok (.aload 4, 2) := by decide +kernel
theorem d16_50 : decode bc16 50 = .ok (.iconst (-1), 1) := by decide +kernel
theorem d16_51 : decode bc16 51 = .ok (.invokestatic 44, 3) := by decide +kernel
theorem d16_54 : decode bc16 54 = .ok (.lconst 0, 1) := by decide +kernel
theorem d16_55 : decode bc16 55 = .ok (.lstore 8, 2) := by decide +kernel
theorem d16_57 : decode bc16 57 = .ok (.iconst 0, 1) := by decide +kernel
theorem d16_58 : decode bc16 58 = .ok (.istore 10, 2) := by decide +kernel
theorem d16_60 : decode bc16 60 = .ok (.iload 10, 2) := by decide +kernel
theorem d16_62 : decode bc16 62 = .ok (.iload_n 1, 1) := by decide +kernel
theorem d16_63 : decode bc16 63 = .ok (.if_icmp .ge 140, 3) := by decide +kernel
theorem d16_66 : decode bc16 66 = .ok (.aload 4, 2) := by decide +kernel
theorem d16_68 : decode bc16 68 = .ok (.iload 10, 2) := by decide +kernel
theorem d16_70 : decode bc16 70 = .ok (.iload 10, 2) := by decide +kernel
theorem d16_72 : decode bc16 72 = .ok (.iastore, 1) := by decide +kernel
theorem d16_73 : decode bc16 73 = .ok (.iconst 0, 1) := by decide +kernel
theorem d16_74 : decode bc16 74 = .ok (.istore 11, 2) := by decide +kernel
theorem d16_76 : decode bc16 76 = .ok (.aload_n 0, 1) := by decide +kernel
theorem d16_77 : decode bc16 77 = .ok (.iload 10, 2) := by decide +kernel
theorem d16_79 : decode bc16 79 = .ok (.invokevirtual 50, 3) := by decide +kernel
theorem d16_82 : decode bc16 82 = .ok (.istore 12, 2) := by decide +kernel
theorem d16_84 : decode bc16 84 = .ok (.iload 12, 2) := by decide +kernel
theorem d16_86 : decode bc16 86 = .ok (.aload_n 0, 1) := by decide +kernel
theorem d16_87 : decode bc16 87 = .ok (.iload 10, 2) := by decide +kernel
theorem d16_89 : decode bc16 89 = .ok (.invokevirtual 54, 3) := by decide +kernel
theorem d16_92 : decode bc16 92 = .ok (.if_icmp .ge 31, 3) := by decide +kernel
theorem d16_95 : decode bc16 95 = .ok (.iload 11, 2) := by decide +kernel
theorem d16_97 : decode bc16 97 = .ok (.aload_n 0, 1) := by decide +kernel
theorem d16_98 : decode bc16 98 = .ok (.iload 12, 2) := by decide +kernel
theorem d16_100 : decode bc16 100 = .ok (.invokevirtual 57, 3) := by decide +kernel
theorem d16_103 : decode bc16 103 = .ok (.iload 10, 2) := by decide +kernel
theorem d16_105 : decode bc16 105 = .ok (.aload 4, 2) := by decide +kernel
theorem d16_107 : decode bc16 107 = .ok (.aload 5, 2) := by decide +kernel
theorem d16_109 : decode bc16 109 = .ok (.aload 6, 2) := by decide +kernel
theorem d16_111 : decode bc16 111 = .ok (.invokestatic 60, 3) := by decide +kernel
theorem d16_114 : decode bc16 114 = .ok (.iadd, 1) := by decide +kernel
theorem d16_115 : decode bc16 115 = .ok (.istore 11, 2) := by decide +kernel
theorem d16_117 : decode bc16 117 = .ok (.iinc 12 1, 3) := by decide +kernel
theorem d16_120 : decode bc16 120 = .ok (.goto (-36), 3) := by decide +kernel
theorem d16_123 : decode bc16 123 = .ok (.aload_n 2, 1) := by decide +kernel
theorem d16_124 : decode bc16 124 = .ok (.ifnull 50, 3) := by decide +kernel
theorem d16_174 : decode bc16 174 = .ok (.lload 8, 2) := by decide +kernel
theorem d16_176 : decode bc16 176 = .ok (.iload 11, 2) := by decide +kernel
theorem d16_178 : decode bc16 178 = .ok (.i2l, 1) := by decide +kernel
theorem d16_179 : decode bc16 179 = .ok (.ladd, 1) := by decide +kernel
theorem d16_180 : decode bc16 180 = .ok (.lstore 8, 2) := by decide +kernel
theorem d16_182 : decode bc16 182 = .ok (.aload_n 3, 1) := by decide +kernel
theorem d16_183 : decode bc16 183 = .ok (.iload 10, 2) := by decide +kernel
theorem d16_185 : decode bc16 185 = .ok (.iconst 1, 1) := by decide +kernel
theorem d16_186 : decode bc16 186 = .ok (.iadd, 1) := by decide +kernel
theorem d16_187 : decode bc16 187 = .ok (.lload 8, 2) := by decide +kernel
theorem d16_189 : decode bc16 189 = .ok (.ldc2_w 66, 3) := by decide +kernel
theorem d16_192 : decode bc16 192 = .ok (.invokestatic 68, 3) := by decide +kernel
theorem d16_195 : decode bc16 195 = .ok (.l2i, 1) := by decide +kernel
theorem d16_196 : decode bc16 196 = .ok (.iastore, 1) := by decide +kernel
theorem d16_197 : decode bc16 197 = .ok (.iinc 10 1, 3) := by decide +kernel
theorem d16_200 : decode bc16 200 = .ok (.goto (-140), 3) := by decide +kernel
theorem d16_203 : decode bc16 203 = .ok (.lload 8, 2) := by decide +kernel
theorem d16_205 : decode bc16 205 = .ok (.ldc2_w 76, 3) := by decide +kernel
theorem d16_208 : decode bc16 208 = .ok (.lcmp, 1) := by decide +kernel
theorem d16_209 : decode bc16 209 = .ok (.ifCond .le 13, 3) := by decide +kernel
theorem d16_222 : decode bc16 222 = .ok (.aload 5, 2) := by decide +kernel
theorem d16_224 : decode bc16 224 = .ok (.ifnonnull 17, 3) := by decide +kernel
theorem d16_227 : decode bc16 227 = .ok (.lload 8, 2) := by decide +kernel
theorem d16_229 : decode bc16 229 = .ok (.l2i, 1) := by decide +kernel
theorem d16_230 : decode bc16 230 = .ok (.newarray .int, 2) := by decide +kernel
theorem d16_232 : decode bc16 232 = .ok (.astore 5, 2) := by decide +kernel
theorem d16_234 : decode bc16 234 = .ok (.aload_n 3, 1) := by decide +kernel
theorem d16_235 : decode bc16 235 = .ok (.iload_n 1, 1) := by decide +kernel
theorem d16_236 : decode bc16 236 = .ok (.invokestatic 85, 3) := by decide +kernel
theorem d16_239 : decode bc16 239 = .ok (.astore 6, 2) := by decide +kernel
theorem d16_241 : decode bc16 241 = .ok (.iinc 7 1, 3) := by decide +kernel
theorem d16_244 : decode bc16 244 = .ok (.goto (-202), 3) := by decide +kernel
theorem d16_247 : decode bc16 247 = .ok (.aload 5, 2) := by decide +kernel
theorem d16_249 : decode bc16 249 = .ok (.arraylength, 1) := by decide +kernel
theorem d16_250 : decode bc16 250 = .ok (.newarray .int, 2) := by decide +kernel
theorem d16_252 : decode bc16 252 = .ok (.astore 7, 2) := by decide +kernel
theorem d16_254 : decode bc16 254 = .ok (.aload 7, 2) := by decide +kernel
theorem d16_256 : decode bc16 256 = .ok (.iconst 1, 1) := by decide +kernel
theorem d16_257 : decode bc16 257 = .ok (.invokestatic 44, 3) := by decide +kernel
theorem d16_260 : decode bc16 260 = .ok (.iload_n 1, 1) := by decide +kernel
theorem d16_261 : decode bc16 261 = .ok (.newarray .int, 2) := by decide +kernel
theorem d16_263 : decode bc16 263 = .ok (.astore 8, 2) := by decide +kernel
theorem d16_265 : decode bc16 265 = .ok (.aload 8, 2) := by decide +kernel
theorem d16_267 : decode bc16 267 = .ok (.iconst 1, 1) := by decide +kernel
theorem d16_268 : decode bc16 268 = .ok (.invokestatic 44, 3) := by decide +kernel
theorem d16_271 : decode bc16 271 = .ok (.new 8, 3) := by decide +kernel
theorem d16_274 : decode bc16 274 = .ok (.dup, 1) := by decide +kernel
theorem d16_275 : decode bc16 275 = .ok (.aload_n 3, 1) := by decide +kernel
theorem d16_276 : decode bc16 276 = .ok (.aload 5, 2) := by decide +kernel
theorem d16_278 : decode bc16 278 = .ok (.aload 7, 2) := by decide +kernel
theorem d16_280 : decode bc16 280 = .ok (.aload 8, 2) := by decide +kernel
theorem d16_282 : decode bc16 282 = .ok (.iload_n 1, 1) := by decide +kernel
theorem d16_283 : decode bc16 283 = .ok (.i2l, 1) := by decide +kernel
theorem d16_284 : decode bc16 284 = .ok (.iconst 1, 1) := by decide +kernel
theorem d16_285 : decode bc16 285 = .ok (.invokespecial 89, 3) := by decide +kernel
theorem d16_288 : decode bc16 288 = .ok (.areturn, 1) := by decide +kernel
theorem own_ef_own_rm16 (m : MethodId) (r0 : Addr) : entryFrame m #[(.ref r0)] 13 = mkF m 0 #[rv r0, .unset, .unset, .unset, .unset, .unset, .unset, .unset, .unset, .unset, .unset, .unset, .unset] [] := by first | (simp [entryFrame, mkF, argsToLocals, Value.category]; done) | rfl
def own_Q_own_rm16 (Z : State) (u10 u11 u12 : Int32) (bn3 : List Int32) (mm2 : Nat) (h0 : Heap) (n0 : Nat) (v : Option Value) (h : Heap) : Prop := ∃ sg es nb ew vw : Addr, v = some (.ref sg) ∧ n0 ≤ h.size ∧ Exa Z h sg "kombos/query/SimpleGraph" ∧ Fld Z h sg "kombos/query/SimpleGraph" "edgeStart" "[I" (.ref es) ∧ Fld Z h sg "kombos/query/SimpleGraph" "neighbour" "[I" (.ref nb) ∧ Fld Z h sg "kombos/query/SimpleGraph" "edgeWeight" "[I" (.ref ew) ∧ Fld Z h sg "kombos/query/SimpleGraph" "vertexWeight" "[I" (.ref vw) ∧ own_A Z h es .int [(.int 0), (.int u10), (.int u11), (.int u12)] ∧ own_A Z h nb .int (bn3.map Value.int) ∧ own_A Z h ew .int ((List.replicate mm2 (1 : Int32)).map Value.int) ∧ own_A Z h vw .int ([(1 : Int32), (1 : Int32), (1 : Int32)].map Value.int)
set_option maxRecDepth 65536 in
set_option maxHeartbeats 40000000 in
theorem own_rm16 (l : Launch) (Z : State) (a0 : Array Value) (hw : ∀ d ∈ tables_1, d.before a0 Z = true) (ws : List Jvm.Cond) (r0 : Addr) (ea ga ix : Addr) (GG sn01 sn02 sn03 sn11 sn12 sn13 xn1 xn2 xn3 bn1 bn2 bn3 : List Int32) (e0 e1 e2 n00 n01 n02 n10 n11 n12 u00 u01 u02 u10 u11 u12 ln2 : Int32) (l0 l1 l2 mm2 : Nat) (h0 : Heap) (n0 : Nat) (Z0 : n0 ≤ h0.size) (Eg : Exa Z h0 r0 "kombos/graph/Graph") (Fg_index : Fld Z h0 r0 "kombos/graph/Graph" "index" "Lkombos/graph/IdIndex;" (.ref ix)) (Fg_directed : Fld Z h0 r0 "kombos/graph/Graph" "directed" "Z" (.int 0)) (Fg_edgeStart : Fld Z h0 r0 "kombos/graph/Graph" "edgeStart" "[I" (.ref ea)) (Fg_edgeTarget : Fld Z h0 r0 "kombos/graph/Graph" "edgeTarget" "[I" (.ref ga)) (Ex : Exa Z h0 ix "kombos/graph/IdIndex") (Fx_size : Fld Z h0 ix "kombos/graph/IdIndex" "size" "I" (.int 3)) (Ae : own_A Z h0 ea .int [(.int (0 : Int32)), (.int e0), (.int e1), (.int e2)]) (Ag : own_A Z h0 ga .int (GG.map Value.int)) (hl0 : e0.toInt = (l0 : Int)) (hl1 : e1.toInt = (l1 : Int)) (hl2 : e2.toInt = (l2 : Int)) (ho1 : l0 ≤ l1) (ho2 : l1 ≤ l2) (ho6 : l2 ≤ 6) (ls01 : sn01.length = 3) (ls02 : sn02.length = 3) (ls11 : sn11.length = 3) (ls12 : sn12.length = 3) (ls03 : sn03.length = 3) (M00 : own_i0 GG (0 : Int32) (l0 - 0) 0 (([(-1 : Int32), (-1 : Int32), (-1 : Int32)]).set 0 (0 : Int32)) 0 = some (sn01, n00)) (M10 : own_i1 GG (0 : Int32) (l0 - 0) 0 (([(-1 : Int32), (-1 : Int32), (-1 : Int32)]).set 0 (0 : Int32)) [(0 : Int32), u00, u01] (List.replicate mm2 (0 : Int32)) 0 = some (sn11, xn1, bn1, n10)) (M01 : own_i0 GG (1 : Int32) (l1 - l0) l0 (sn01.set 1 (1 : Int32)) 0 = some (sn02, n01)) (M11 : own_i1 GG (1 : Int32) (l1 - l0) l0 (sn11.set 1 (1 : Int32)) xn1 bn1 0 = some (sn12, xn2, bn2, n11)) (M02 : own_i0 GG (2 : Int32) (l2 - l1) l1 (sn02.set 2 (2 : Int32)) 0 = some (sn03, n02)) (M12 : own_i1 GG (2 : Int32) (l2 - l1) l1 (sn12.set 2 (2 : Int32)) xn2 bn2 0 = some (sn13, xn3, bn3, n12)) (hu00 : (own_minL ((0 : Int64) + (n00.toInt64)) (2147483647 : Int64)).toInt32 = u00) (hu01 : (own_minL (((0 : Int64) + (n00.toInt64)) + (n01.toInt64)) (2147483647 : Int64)).toInt32 = u01) (hu02 : (own_minL ((((0 : Int64) + (n00.toInt64)) + (n01.toInt64)) + (n02.toInt64)) (2147483647 : Int64)).toInt32 = u02) (hen0 : ((((0 : Int64) + (n00.toInt64)) + (n01.toInt64)) + (n02.toInt64)).toInt ≤ 6) (hu10 : (own_minL ((0 : Int64) + (n10.toInt64)) (2147483647 : Int64)).toInt32 = u10) (hu11 : (own_minL (((0 : Int64) + (n10.toInt64)) + (n11.toInt64)) (2147483647 : Int64)).toInt32 = u11) (hu12 : (own_minL ((((0 : Int64) + (n10.toInt64)) + (n11.toInt64)) + (n12.toInt64)) (2147483647 : Int64)).toInt32 = u12) (hen1 : ((((0 : Int64) + (n10.toInt64)) + (n11.toInt64)) + (n12.toInt64)).toInt ≤ 6) (hmm : (((((0 : Int64) + (n00.toInt64)) + (n01.toInt64)) + (n02.toInt64)).toInt32).toInt = (mm2 : Int)) (hmm6 : mm2 ≤ 6) (hln2 : ln2.toInt = (mm2 : Int)) (hbl : ln2.toInt = (bn3.length : Int)) :
    own_Con l Z (⟨"kombos/query/SimpleGraph", "under", "(Lkombos/graph/Graph;)Lkombos/query/SimpleGraph;"⟩ : MethodName) prog_118_method_2_code 13 (some (.object "kombos/query/SimpleGraph")) ws ({ frames := 2, cells := 7, slots := 31, locals := 78 } : Room) #[(.ref r0)] h0 n0 (own_Q_own_rm16 Z u10 u11 u12 bn3 mm2 h0 n0) := by
  refine own_body (plainFor_of_name own_pn5) ?_
  intro p e s m below meth c T0 hx hZ hby hml hown hnm hret hlk Y0
  replace hown : s.vm.findClass "kombos/query/SimpleGraph" = some m.cls := hown
  replace hnm : meth.name = "under" := hnm
  rw [own_ef_own_rm16 m r0]
  show own_Ends _ _ _ _ (T0.setTop (mkF m 0 #[rv r0, .unset, .unset, .unset, .unset, .unset, .unset, .unset, .unset, .unset, .unset, .unset, .unset] []))
  refine o_aloadN Y0 hx hby d16_0 rfl rfl ?_
  refine own_callV Y0 hx hZ (y := (⟨"kombos/graph/Graph", "vertexCount", "()I"⟩ : MethodName)) (z := (⟨"kombos/graph/Graph", "vertexCount", "()I"⟩ : MethodName)) hown (own_w hw 150 rfl) (own_w hw 151 rfl) (notFace_of_selects (args := #[]) (mvT hZ (own_w hw 153 rfl))) (own_w hw 153 rfl) (own_w hw 152 rfl) (own_w hw 113 rfl) (own_w hw 154 rfl) (by decide) (a := r0) Eg (argsL := []) (rest := []) (own_rm17 l Z a0 hw [] r0 ix h0 n0  Eg Fg_index Ex Fx_size) (W := 0) (by decide) (by decide) (by decide) (by decide) rfl (by rw [hml]; rfl) (lenOf own_pd7 rfl) rfl (by show 2 * 0 + _ ≤ _; exact Nat.le_of_eq rfl) (hb hby d16_1) (fun T2322 h2324 v2325 Y2323 q2326 => ?_)
  obtain ⟨rfl, rfl⟩ := q2326
  show own_Ends _ _ _ _ (T2322.setTop (mkF m 4 #[rv r0, .unset, .unset, .unset, .unset, .unset, .unset, .unset, .unset, .unset, .unset, .unset, .unset] [(.int 3)]))
  refine o_istoreN Y2323 hx hby d16_4 rfl (l' := #[rv r0, iv 3, .unset, .unset, .unset, .unset, .unset, .unset, .unset, .unset, .unset, .unset, .unset]) rfl ?_
  refine o_aloadN Y2323 hx hby d16_5 rfl rfl ?_
  refine own_callV Y2323 hx hZ (y := (⟨"kombos/graph/Graph", "isDirected", "()Z"⟩ : MethodName)) (z := (⟨"kombos/graph/Graph", "isDirected", "()Z"⟩ : MethodName)) hown (own_w hw 156 rfl) (own_w hw 157 rfl) (notFace_of_selects (args := #[]) (mvT hZ (own_w hw 159 rfl))) (own_w hw 159 rfl) (own_w hw 158 rfl) (own_w hw 113 rfl) (own_w hw 160 rfl) (by decide) (a := r0) Eg (argsL := []) (rest := []) (own_rm18 l Z a0 hw [] r0  h0 n0  Eg Fg_directed) (W := 0) (by decide) (by decide) (by decide) (by decide) rfl (by rw [hml]; rfl) (lenOf own_pd12 rfl) rfl (by show 2 * 0 + _ ≤ _; exact Nat.le_of_eq rfl) (hb hby d16_6) (fun T2327 h2329 v2330 Y2328 q2331 => ?_)
  obtain ⟨rfl, rfl⟩ := q2331
  show own_Ends _ _ _ _ (T2327.setTop (mkF m 9 #[rv r0, iv 3, .unset, .unset, .unset, .unset, .unset, .unset, .unset, .unset, .unset, .unset, .unset] [(.int 0)]))
  refine o_ifYes Y2328 hx hby (pc' := 20) d16_9 rfl (XT.i0_eq_t (by decide)) (by decide) (by decide) ?_
  refine o_aconstNull Y2328 hx hby d16_20  ?_
  refine o_astoreN Y2328 hx hby d16_21 rfl rfl (l' := #[rv r0, iv 3, .val .null, .unset, .unset, .unset, .unset, .unset, .unset, .unset, .unset, .unset, .unset]) rfl ?_
  refine o_iloadN Y2328 hx hby d16_22 rfl ?_
  refine o_iconst Y2328 hx hby d16_23 (x := 1) rfl ?_
  refine o_iadd Y2328 hx hby d16_24 rfl (z := 4) rfl ?_
  refine own_newP Y2328 hx hZ (own_w hw 99 rfl) rfl (hb hby d16_25) rfl (by decide) (nz := 4) (cap := 4) (by decide) (by decide) (by decide) (by decide) (by decide) (ty := .int) rfl (fun T2332 h2334 b2337 eb2338 Y2333 E2335 A2336 => ?_)
  have ne2339 : r0 ≠ b2337 := Nat.ne_of_lt (by rw [eb2338]; exact Eg.lt)
  have ne2340 : ix ≠ b2337 := Nat.ne_of_lt (by rw [eb2338]; exact Ex.lt)
  have ne2341 : ea ≠ b2337 := Nat.ne_of_lt (by rw [eb2338]; exact Ae.lt)
  have ne2342 : ga ≠ b2337 := Nat.ne_of_lt (by rw [eb2338]; exact Ag.lt)
  have g2343 : n0 ≤ b2337 := by rw [eb2338]; exact Z0
  replace A2336 : own_A Z h2334 b2337 .int [(.int 0), (.int 0), (.int 0), (.int 0)] := A2336
  show own_Ends _ _ _ _ (T2332.setTop (mkF m 27 #[rv r0, iv 3, .val .null, .unset, .unset, .unset, .unset, .unset, .unset, .unset, .unset, .unset, .unset] [(.ref b2337)]))
  refine o_astoreN Y2333 hx hby d16_27 rfl rfl (l' := #[rv r0, iv 3, .val .null, rv b2337, .unset, .unset, .unset, .unset, .unset, .unset, .unset, .unset, .unset]) rfl ?_
  refine o_iloadN Y2333 hx hby d16_28 rfl ?_
  refine own_newP Y2333 hx hZ (own_w hw 99 rfl) rfl (hb hby d16_29) rfl (by decide) (nz := 3) (cap := 3) (by decide) (by decide) (by decide) (by decide) (by decide) (ty := .int) rfl (fun T2344 h2346 b2349 eb2350 Y2345 E2347 A2348 => ?_)
  have f2351 := Eg.ext E2335
  have ne2352 : r0 ≠ b2349 := Nat.ne_of_lt (by rw [eb2350]; exact f2351.lt)
  have f2353 := Ex.ext E2335
  have ne2354 : ix ≠ b2349 := Nat.ne_of_lt (by rw [eb2350]; exact f2353.lt)
  have f2355 := Ae.ext E2335
  have ne2356 : ea ≠ b2349 := Nat.ne_of_lt (by rw [eb2350]; exact f2355.lt)
  have f2357 := Ag.ext E2335
  have ne2358 : ga ≠ b2349 := Nat.ne_of_lt (by rw [eb2350]; exact f2357.lt)
  have ne2359 : b2337 ≠ b2349 := Nat.ne_of_lt (by rw [eb2350]; exact A2336.lt)
  have z2361 : n0 ≤ h2334.size := Nat.le_trans Z0 E2335.1
  have g2360 : n0 ≤ b2349 := by rw [eb2350]; exact z2361
  replace A2348 : own_A Z h2346 b2349 .int [(.int 0), (.int 0), (.int 0)] := A2348
  show own_Ends _ _ _ _ (T2344.setTop (mkF m 31 #[rv r0, iv 3, .val .null, rv b2337, .unset, .unset, .unset, .unset, .unset, .unset, .unset, .unset, .unset] [(.ref b2349)]))
  refine o_astore Y2345 hx hby d16_31 rfl rfl (l' := #[rv r0, iv 3, .val .null, rv b2337, rv b2349, .unset, .unset, .unset, .unset, .unset, .unset, .unset, .unset]) rfl ?_
  refine o_aconstNull Y2345 hx hby d16_33  ?_
  refine o_astore Y2345 hx hby d16_34 rfl rfl (l' := #[rv r0, iv 3, .val .null, rv b2337, rv b2349, .val .null, .unset, .unset, .unset, .unset, .unset, .unset, .unset]) rfl ?_
  refine o_aconstNull Y2345 hx hby d16_36  ?_
  refine o_astore Y2345 hx hby d16_37 rfl rfl (l' := #[rv r0, iv 3, .val .null, rv b2337, rv b2349, .val .null, .val .null, .unset, .unset, .unset, .unset, .unset, .unset]) rfl ?_
  refine o_iconst Y2345 hx hby d16_39 (x := 0) rfl ?_
  refine o_istore Y2345 hx hby d16_40 rfl (l' := #[rv r0, iv 3, .val .null, rv b2337, rv b2349, .val .null, .val .null, iv 0, .unset, .unset, .unset, .unset, .unset]) rfl ?_
  refine o_iload Y2345 hx hby d16_42 rfl ?_
  refine o_iconst Y2345 hx hby d16_44 (x := 2) rfl ?_
  refine o_icmpNo Y2345 hx hby d16_45 rfl (XT.ii_ge_f (by decide)) ?_
  refine o_aload Y2345 hx hby d16_48 rfl rfl ?_
  refine o_iconst Y2345 hx hby d16_50 (x := (-1)) rfl ?_
  have z2362 : n0 ≤ h2346.size := Nat.le_trans z2361 E2347.1
  refine own_callS Y2345 hx hZ (y := (⟨"java/util/Arrays", "fill", "([II)V"⟩ : MethodName)) hown (own_w hw 161 rfl) (own_w hw 162 rfl) (own_w hw 163 rfl) (own_w hw 164 rfl) (by decide) (argsL := [(.ref b2349), (.int (-1))]) (rest := []) (own_rm19 l Z a0 hw [] b2349 (-1 : Int32) [(0 : Int32), (0 : Int32), (0 : Int32)] (3 : Int32) h2346 n0 z2362 A2348 rfl g2360) (W := 0) (by decide) (by decide) (by decide) (by decide) rfl (by rw [hml]; rfl) (lenOf own_pd10 rfl) rfl (by show 2 * 0 + _ ≤ _; exact Nat.le_of_eq rfl) (hb hby d16_51) (fun T2363 h2365 v2366 Y2364 q2367 => ?_)
  obtain ⟨rfl, K2368, A2369⟩ := q2367
  replace A2369 : own_A Z h2365 b2349 .int ([(-1 : Int32), (-1 : Int32), (-1 : Int32)].map Value.int) := A2369
  show own_Ends _ _ _ _ (T2363.setTop (mkF m 54 #[rv r0, iv 3, .val .null, rv b2337, rv b2349, .val .null, .val .null, iv 0, .unset, .unset, .unset, .unset, .unset] []))
  refine own_st (fun t_ => XS.lconst (own_here Y2364) hx rfl (hb hby d16_54) ) ?_
  show own_Ends _ _ _ _ (T2363.setTop (mkF m 55 #[rv r0, iv 3, .val .null, rv b2337, rv b2349, .val .null, .val .null, iv 0, .unset, .unset, .unset, .unset, .unset] [(.long 0)]))
  refine own_st (fun t_ => XS.lstore (own_here Y2364) hx rfl (hb hby d16_55) rfl (l' := #[rv r0, iv 3, .val .null, rv b2337, rv b2349, .val .null, .val .null, iv 0, .val (.long 0), .second, .unset, .unset, .unset]) rfl) ?_
  show own_Ends _ _ _ _ (T2363.setTop (mkF m 57 #[rv r0, iv 3, .val .null, rv b2337, rv b2349, .val .null, .val .null, iv 0, .val (.long 0), .second, .unset, .unset, .unset] []))
  refine o_iconst Y2364 hx hby d16_57 (x := 0) rfl ?_
  refine o_istore Y2364 hx hby d16_58 rfl (l' := #[rv r0, iv 3, .val .null, rv b2337, rv b2349, .val .null, .val .null, iv 0, .val (.long 0), .second, iv 0, .unset, .unset]) rfl ?_
  refine o_iload Y2364 hx hby d16_60 rfl ?_
  refine o_iloadN Y2364 hx hby d16_62 rfl ?_
  refine o_icmpNo Y2364 hx hby d16_63 rfl (XT.ii_ge_f (by decide)) ?_
  refine o_aload Y2364 hx hby d16_66 rfl rfl ?_
  refine o_iload Y2364 hx hby d16_68 rfl ?_
  refine o_iload Y2364 hx hby d16_70 rfl ?_
  refine p_stI Y2364 hx hZ A2369 g2360 (i := 0) (by decide) (by decide) (own_mlen (by simp)) hby rfl d16_72 (fun T2370 h2372 Y2371 W2373 A2374 => ?_)
  show own_Ends _ _ _ _ (T2370.setTop (mkF m 73 #[rv r0, iv 3, .val .null, rv b2337, rv b2349, .val .null, .val .null, iv 0, .val (.long 0), .second, iv 0, .unset, .unset] []))
  have A2375 : own_A Z h2372 b2349 .int ((([(-1 : Int32), (-1 : Int32), (-1 : Int32)]).set 0 (0 : Int32)).map Value.int) := by have q := A2374; exact q
  refine o_iconst Y2371 hx hby d16_73 (x := 0) rfl ?_
  refine o_istore Y2371 hx hby d16_74 rfl (l' := #[rv r0, iv 3, .val .null, rv b2337, rv b2349, .val .null, .val .null, iv 0, .val (.long 0), .second, iv 0, iv 0, .unset]) rfl ?_
  refine o_aloadN Y2371 hx hby d16_76 rfl rfl ?_
  refine o_iload Y2371 hx hby d16_77 rfl ?_
  have f2376 := f2351.ext E2347
  have f2377 := f2376.keep K2368
  have f2378 := f2377.wr W2373
  have f2379 := Fg_edgeStart.ext E2335
  have f2380 := f2379.ext E2347
  have f2381 := f2380.keep K2368 (ninS ne2352 nin0)
  have f2382 := f2381.other W2373 (Or.inl ne2352)
  have f2383 := f2355.ext E2347
  have f2384 := f2383.keep K2368 (ninS ne2356 nin0)
  have f2385 := f2384.other W2373 ne2356
  refine own_callV Y2371 hx hZ (y := (⟨"kombos/graph/Graph", "firstEdge", "(I)I"⟩ : MethodName)) (z := (⟨"kombos/graph/Graph", "firstEdge", "(I)I"⟩ : MethodName)) hown (own_w hw 165 rfl) (own_w hw 166 rfl) (notFace_of_selects (args := #[]) (mvT hZ (own_w hw 168 rfl))) (own_w hw 168 rfl) (own_w hw 167 rfl) (own_w hw 113 rfl) (own_w hw 169 rfl) (by decide) (a := r0) f2378 (argsL := [(.int 0)]) (rest := []) (own_rm20_0 l Z a0 hw [] r0 ea e0 e1 e2 h2372 n0  f2378 f2382 f2385) (W := 0) (by decide) (by decide) (by decide) (by decide) rfl (by rw [hml]; rfl) (lenOf own_pd6 rfl) rfl (by show 2 * 0 + _ ≤ _; exact Nat.le_of_eq rfl) (hb hby d16_79) (fun T2386 h2388 v2389 Y2387 q2390 => ?_)
  obtain ⟨rfl, rfl⟩ := q2390
  show own_Ends _ _ _ _ (T2386.setTop (mkF m 82 #[rv r0, iv 3, .val .null, rv b2337, rv b2349, .val .null, .val .null, iv 0, .val (.long 0), .second, iv 0, iv 0, .unset] [(.int 0)]))
  refine o_istore Y2387 hx hby d16_82 rfl (l' := #[rv r0, iv 3, .val .null, rv b2337, rv b2349, .val .null, .val .null, iv 0, .val (.long 0), .second, iv 0, iv 0, iv 0]) rfl ?_
  show own_Ends _ _ _ _ (T2386.setTop (mkF m 84 #[rv r0, iv 3, .val .null, rv b2337, rv b2349, .val .null, .val .null, iv 0, .val (.long 0), .second, iv 0, iv 0, iv 0] []))
  have hL2391 : ∀ (k_00 : Nat) (T2392 : State) (h2394 : Heap) (i_00 : Nat) (j_00 c_00 : Int32) (sv_00 : List Int32) (Y2393 : own_S p l e ({ frames := 2, cells := 7, slots := 31, locals := 78 } : Room) s m #[(.ref r0)] below meth c n0 T2392 h2394 2 7) (z2395 : n0 ≤ h2394.size) (f2396 : Exa Z h2394 r0 "kombos/graph/Graph") (f2397 : Fld Z h2394 r0 "kombos/graph/Graph" "edgeStart" "[I" (.ref ea)) (f2398 : Fld Z h2394 r0 "kombos/graph/Graph" "edgeTarget" "[I" (.ref ga)) (f2399 : own_A Z h2394 ea .int [(.int 0), (.int e0), (.int e1), (.int e2)]) (f2400 : own_A Z h2394 ga .int (GG.map Value.int)) (f2401 : own_A Z h2394 b2337 .int [(.int 0), (.int 0), (.int 0), (.int 0)]) (f2402 : own_A Z h2394 b2349 .int (sv_00.map Value.int)) (hj_00 : j_00.toInt = (i_00 : Int)) (hik_00 : i_00 + k_00 = l0) (hR_00 : own_i0 GG (0 : Int32) k_00 i_00 sv_00 c_00 = some (sn01, n00)), own_Ends p.tables e below (own_P s n0 (own_Q_own_rm16 Z u10 u11 u12 bn3 mm2 h0 n0) ({ frames := 2, cells := 7, slots := 31, locals := 78 } : Room).cells ({ frames := 2, cells := 7, slots := 31, locals := 78 } : Room).slots) (T2392.setTop (mkF m 84 #[rv r0, iv 3, .val .null, rv b2337, rv b2349, .val .null, .val .null, iv 0, .val (.long 0), .second, iv 0, iv c_00, iv j_00] [])) := by
   intro k_00
   induction k_00 using Nat.strongRecOn with
   | _ k_00 ih_00 =>
    intro T2392 h2394 i_00 j_00 c_00 sv_00 Y2393 z2395 f2396 f2397 f2398 f2399 f2400 f2401 f2402 hj_00 hik_00 hR_00
    obtain ⟨hj0_00, hj1_00⟩ := own_nat hj_00
    refine o_iload Y2393 hx hby d16_84 rfl ?_
    refine o_aloadN Y2393 hx hby d16_86 rfl rfl ?_
    refine o_iload Y2393 hx hby d16_87 rfl ?_
    refine own_callV Y2393 hx hZ (y := (⟨"kombos/graph/Graph", "endEdge", "(I)I"⟩ : MethodName)) (z := (⟨"kombos/graph/Graph", "endEdge", "(I)I"⟩ : MethodName)) hown (own_w hw 170 rfl) (own_w hw 171 rfl) (notFace_of_selects (args := #[]) (mvT hZ (own_w hw 173 rfl))) (own_w hw 173 rfl) (own_w hw 172 rfl) (own_w hw 113 rfl) (own_w hw 174 rfl) (by decide) (a := r0) f2396 (argsL := [(.int 0)]) (rest := [(.int j_00)]) (own_rm21_0 l Z a0 hw [] r0 ea e0 e1 e2 h2394 n0  f2396 f2397 f2399) (W := 1) (by decide) (by decide) (by decide) (by decide) rfl (by rw [hml]; rfl) (lenOf own_pd6 rfl) rfl (by show 2 * 0 + _ ≤ _; exact Nat.le_of_eq rfl) (hb hby d16_89) (fun T2403 h2405 v2406 Y2404 q2407 => ?_)
    obtain ⟨rfl, rfl⟩ := q2407
    show own_Ends _ _ _ _ (T2403.setTop (mkF m 92 #[rv r0, iv 3, .val .null, rv b2337, rv b2349, .val .null, .val .null, iv 0, .val (.long 0), .second, iv 0, iv c_00, iv j_00] [(.int e0), (.int j_00)]))
    by_cases c92_2408 : j_00 < e0
    ·
     refine o_icmpNo Y2404 hx hby d16_92 rfl (XT.ii_ge_f c92_2408) ?_
     show own_Ends _ _ _ _ (T2403.setTop (mkF m 95 #[rv r0, iv 3, .val .null, rv b2337, rv b2349, .val .null, .val .null, iv 0, .val (.long 0), .second, iv 0, iv c_00, iv j_00] []))
     have hlt_00 : i_00 < l0 := by have := c92_2408; rw [own_lt, hj_00, hl0] at this; omega
     obtain ⟨kk_00, rfl⟩ : ∃ q, k_00 = q + 1 := ⟨k_00 - 1, by omega⟩
     obtain ⟨elt_00, ok_00, hR2_00⟩ := own_i0_inv hR_00
     refine o_iload Y2404 hx hby d16_95 rfl ?_
     refine o_aloadN Y2404 hx hby d16_97 rfl rfl ?_
     refine o_iload Y2404 hx hby d16_98 rfl ?_
     refine own_callV Y2404 hx hZ (y := (⟨"kombos/graph/Graph", "target", "(I)I"⟩ : MethodName)) (z := (⟨"kombos/graph/Graph", "target", "(I)I"⟩ : MethodName)) hown (own_w hw 278 rfl) (own_w hw 279 rfl) (notFace_of_selects (args := #[]) (mvT hZ (own_w hw 281 rfl))) (own_w hw 281 rfl) (own_w hw 280 rfl) (own_w hw 113 rfl) (own_w hw 282 rfl) (by decide) (a := r0) f2396 (argsL := [(.int j_00)]) (rest := [(.int c_00)]) (own_rm35 l Z a0 hw [] r0 j_00 ga GG i_00 h2394 n0  f2396 f2398 f2400 hj_00 elt_00) (W := 1) (by decide) (by decide) (by decide) (by decide) rfl (by rw [hml]; rfl) (lenOf own_pd6 rfl) rfl (by show 2 * 0 + _ ≤ _; exact Nat.le_of_eq rfl) (hb hby d16_100) (fun T2409 h2411 v2412 Y2410 q2413 => ?_)
     obtain ⟨rfl, rfl⟩ := q2413
     show own_Ends _ _ _ _ (T2409.setTop (mkF m 103 #[rv r0, iv 3, .val .null, rv b2337, rv b2349, .val .null, .val .null, iv 0, .val (.long 0), .second, iv 0, iv c_00, iv j_00] [(.int (own_g GG i_00)), (.int c_00)]))
     refine o_iload Y2410 hx hby d16_103 rfl ?_
     refine o_aload Y2410 hx hby d16_105 rfl rfl ?_
     refine o_aload Y2410 hx hby d16_107 rfl rfl ?_
     refine o_aload Y2410 hx hby d16_109 rfl rfl ?_
     refine own_callS Y2410 hx hZ (y := (⟨"kombos/query/SimpleGraph", "note", "(II[I[I[I)I"⟩ : MethodName)) hown (own_w hw 283 rfl) (own_w hw 284 rfl) (own_w hw 148 rfl) (own_w hw 285 rfl) (by decide) (argsL := [(.int (own_g GG i_00)), (.int 0), (.ref b2349), .null, .null]) (rest := [(.int c_00)]) (own_rm36_0 l Z a0 hw [] (own_g GG i_00) (0 : Int32) b2349 sv_00 h2394 n0  f2402 ok_00 g2360) (W := 1) (by decide) (by decide) (by decide) (by decide) rfl (by rw [hml]; rfl) (lenOf own_pd13 rfl) rfl (by show 2 * 0 + _ ≤ _; exact Nat.le_of_eq rfl) (hb hby d16_111) (fun T2414 h2416 v2417 Y2415 q2418 => ?_)
     obtain ⟨rfl, K2419, A2420⟩ := q2418
     show own_Ends _ _ _ _ (T2414.setTop (mkF m 114 #[rv r0, iv 3, .val .null, rv b2337, rv b2349, .val .null, .val .null, iv 0, .val (.long 0), .second, iv 0, iv c_00, iv j_00] [(.int (own_ni sv_00 (own_g GG i_00) (0 : Int32))), (.int c_00)]))
     refine o_iadd Y2415 hx hby d16_114 rfl rfl ?_
     refine o_istore Y2415 hx hby d16_115 rfl (l' := #[rv r0, iv 3, .val .null, rv b2337, rv b2349, .val .null, .val .null, iv 0, .val (.long 0), .second, iv 0, iv (c_00 + (own_ni sv_00 (own_g GG i_00) (0 : Int32))), iv j_00]) rfl ?_
     refine o_iinc Y2415 hx hby d16_117 rfl (l' := #[rv r0, iv 3, .val .null, rv b2337, rv b2349, .val .null, .val .null, iv 0, .val (.long 0), .second, iv 0, iv (c_00 + (own_ni sv_00 (own_g GG i_00) (0 : Int32))), iv (j_00 + (1 : Int32))]) rfl ?_
     refine o_goto Y2415 hx hby (pc' := 84) d16_120 (by decide) (by decide) ?_
     have z2421 : n0 ≤ h2416.size := Nat.le_trans z2395 K2419.1
     have f2422 := f2396.keep K2419
     have f2423 := f2397.keep K2419 (ninS ne2352 nin0)
     have f2424 := f2398.keep K2419 (ninS ne2352 nin0)
     have f2425 := f2399.keep K2419 (ninS ne2356 nin0)
     have f2426 := f2400.keep K2419 (ninS ne2358 nin0)
     have f2427 := f2401.keep K2419 (ninS ne2359 nin0)
     exact ih_00 kk_00 (by omega) T2414 h2416 (i_00 + 1) ((j_00 + (1 : Int32))) ((c_00 + (own_ni sv_00 (own_g GG i_00) (0 : Int32)))) ((own_ns sv_00 (own_g GG i_00) (0 : Int32))) Y2415 z2421 f2422 f2423 f2424 f2425 f2426 f2427 A2420 (own_inc hj_00 (by omega)) (by omega) hR2_00
    ·
     refine o_icmpYes Y2404 hx hby (pc' := 123) d16_92 rfl (XT.ii_ge_t c92_2408) (by decide) (by decide) ?_
     show own_Ends _ _ _ _ (T2403.setTop (mkF m 123 #[rv r0, iv 3, .val .null, rv b2337, rv b2349, .val .null, .val .null, iv 0, .val (.long 0), .second, iv 0, iv c_00, iv j_00] []))
     have hk0_00 : k_00 = 0 := by have := c92_2408; rw [own_lt, hj_00, hl0] at this; omega
     subst hk0_00
     have he_00 : sn01 = sv_00 ∧ n00 = c_00 := by have q := hR_00; simp only [own_i0, Option.some.injEq, Prod.mk.injEq] at q; simp [q]
     obtain ⟨rfl, rfl⟩ := he_00
     show own_Ends _ _ _ _ (T2403.setTop (mkF m 123 #[rv r0, iv 3, .val .null, rv b2337, rv b2349, .val .null, .val .null, iv 0, .val (.long 0), .second, iv 0, iv n00, iv j_00] []))
     refine o_aloadN Y2404 hx hby d16_123 rfl rfl ?_
     refine o_ifnullYes Y2404 hx hby (pc' := 174) d16_124 rfl (by decide) (by decide) ?_
     refine o_lload Y2404 hx hby d16_174 rfl ?_
     refine o_iload Y2404 hx hby d16_176 rfl ?_
     refine o_i2l Y2404 hx hby d16_178 rfl rfl ?_
     refine o_ladd Y2404 hx hby d16_179 rfl rfl ?_
     refine own_st (fun t_ => XS.lstore (own_here Y2404) hx rfl (hb hby d16_180) rfl (l' := #[rv r0, iv 3, .val .null, rv b2337, rv b2349, .val .null, .val .null, iv 0, .val (.long ((0 : Int64) + (n00.toInt64))), .second, iv 0, iv n00, iv j_00]) rfl) ?_
     show own_Ends _ _ _ _ (T2403.setTop (mkF m 182 #[rv r0, iv 3, .val .null, rv b2337, rv b2349, .val .null, .val .null, iv 0, .val (.long ((0 : Int64) + (n00.toInt64))), .second, iv 0, iv n00, iv j_00] []))
     refine o_aloadN Y2404 hx hby d16_182 rfl rfl ?_
     refine o_iload Y2404 hx hby d16_183 rfl ?_
     refine o_iconst Y2404 hx hby d16_185 (x := 1) rfl ?_
     refine o_iadd Y2404 hx hby d16_186 rfl (z := 1) rfl ?_
     refine o_lload Y2404 hx hby d16_187 rfl ?_
     refine own_ldcJ Y2404 hx hZ hown (own_w hw 175 rfl) rfl (hb hby d16_189) ?_
     show own_Ends _ _ _ _ (T2403.setTop (mkF m 192 #[rv r0, iv 3, .val .null, rv b2337, rv b2349, .val .null, .val .null, iv 0, .val (.long ((0 : Int64) + (n00.toInt64))), .second, iv 0, iv n00, iv j_00] [(.long 2147483647), (.long ((0 : Int64) + (n00.toInt64))), (.int 1), (.ref b2337)]))
     refine own_callS Y2404 hx hZ (y := (⟨"java/lang/Math", "min", "(JJ)J"⟩ : MethodName)) hown (own_w hw 176 rfl) (own_w hw 177 rfl) (own_w hw 178 rfl) (own_w hw 179 rfl) (by decide) (argsL := [(.long ((0 : Int64) + (n00.toInt64))), (.long 2147483647)]) (rest := [(.int 1), (.ref b2337)]) (own_rm22 l Z a0 hw [] ((0 : Int64) + (n00.toInt64)) (2147483647 : Int64)  h2394 n0  ) (W := 2) (by decide) (by decide) (by decide) (by decide) rfl (by rw [hml]; rfl) (lenOf own_pd14 rfl) rfl (by show 2 * 0 + _ ≤ _; exact Nat.le_of_eq rfl) (hb hby d16_192) (fun T2428 h2430 v2431 Y2429 q2432 => ?_)
     obtain ⟨rfl, rfl⟩ := q2432
     show own_Ends _ _ _ _ (T2428.setTop (mkF m 195 #[rv r0, iv 3, .val .null, rv b2337, rv b2349, .val .null, .val .null, iv 0, .val (.long ((0 : Int64) + (n00.toInt64))), .second, iv 0, iv n00, iv j_00] [(.long (own_minL ((0 : Int64) + (n00.toInt64)) (2147483647 : Int64))), (.int 1), (.ref b2337)]))
     refine o_l2i Y2429 hx hby d16_195 rfl rfl ?_
     show own_Ends _ _ _ _ (T2428.setTop (mkF m 196 #[rv r0, iv 3, .val .null, rv b2337, rv b2349, .val .null, .val .null, iv 0, .val (.long ((0 : Int64) + (n00.toInt64))), .second, iv 0, iv n00, iv j_00] [(.int ((own_minL ((0 : Int64) + (n00.toInt64)) (2147483647 : Int64)).toInt32)), (.int 1), (.ref b2337)]))
     rw [hu00]
     show own_Ends _ _ _ _ (T2428.setTop (mkF m 196 #[rv r0, iv 3, .val .null, rv b2337, rv b2349, .val .null, .val .null, iv 0, .val (.long ((0 : Int64) + (n00.toInt64))), .second, iv 0, iv n00, iv j_00] [(.int u00), (.int 1), (.ref b2337)]))
     refine p_stI Y2429 hx hZ f2401 g2343 (i := 1) (by decide) (by decide) (Nat.le_of_ble_eq_true rfl) hby rfl d16_196 (fun T2433 h2435 Y2434 W2436 A2437 => ?_)
     replace A2437 : own_A Z h2435 b2337 .int [(.int 0), (.int u00), (.int 0), (.int 0)] := A2437
     refine o_iinc Y2434 hx hby d16_197 rfl (l' := #[rv r0, iv 3, .val .null, rv b2337, rv b2349, .val .null, .val .null, iv 0, .val (.long ((0 : Int64) + (n00.toInt64))), .second, iv 1, iv n00, iv j_00]) rfl ?_
     refine o_goto Y2434 hx hby (pc' := 60) d16_200 (by decide) (by decide) ?_
     refine o_iload Y2434 hx hby d16_60 rfl ?_
     refine o_iloadN Y2434 hx hby d16_62 rfl ?_
     refine o_icmpNo Y2434 hx hby d16_63 rfl (XT.ii_ge_f (by decide)) ?_
     refine o_aload Y2434 hx hby d16_66 rfl rfl ?_
     refine o_iload Y2434 hx hby d16_68 rfl ?_
     refine o_iload Y2434 hx hby d16_70 rfl ?_
     have f2438 := f2402.other W2436 (Ne.symm ne2359)
     refine p_stI Y2434 hx hZ f2438 g2360 (i := 1) (by decide) (by decide) (own_mlen (by rw [ls01]; decide)) hby rfl d16_72 (fun T2439 h2441 Y2440 W2442 A2443 => ?_)
     show own_Ends _ _ _ _ (T2439.setTop (mkF m 73 #[rv r0, iv 3, .val .null, rv b2337, rv b2349, .val .null, .val .null, iv 0, .val (.long ((0 : Int64) + (n00.toInt64))), .second, iv 1, iv n00, iv j_00] []))
     have A2444 : own_A Z h2441 b2349 .int ((sn01.set 1 (1 : Int32)).map Value.int) := by have q := A2443; simpa only [List.map_set] using q
     refine o_iconst Y2440 hx hby d16_73 (x := 0) rfl ?_
     refine o_istore Y2440 hx hby d16_74 rfl (l' := #[rv r0, iv 3, .val .null, rv b2337, rv b2349, .val .null, .val .null, iv 0, .val (.long ((0 : Int64) + (n00.toInt64))), .second, iv 1, iv 0, iv j_00]) rfl ?_
     refine o_aloadN Y2440 hx hby d16_76 rfl rfl ?_
     refine o_iload Y2440 hx hby d16_77 rfl ?_
     have f2445 := f2396.wr W2436
     have f2446 := f2445.wr W2442
     have f2447 := f2397.other W2436 (Or.inl ne2339)
     have f2448 := f2447.other W2442 (Or.inl ne2352)
     have f2449 := f2399.other W2436 ne2341
     have f2450 := f2449.other W2442 ne2356
     refine own_callV Y2440 hx hZ (y := (⟨"kombos/graph/Graph", "firstEdge", "(I)I"⟩ : MethodName)) (z := (⟨"kombos/graph/Graph", "firstEdge", "(I)I"⟩ : MethodName)) hown (own_w hw 165 rfl) (own_w hw 166 rfl) (notFace_of_selects (args := #[]) (mvT hZ (own_w hw 168 rfl))) (own_w hw 168 rfl) (own_w hw 167 rfl) (own_w hw 113 rfl) (own_w hw 169 rfl) (by decide) (a := r0) f2446 (argsL := [(.int 1)]) (rest := []) (own_rm20_1 l Z a0 hw [] r0 ea e0 e1 e2 h2441 n0  f2446 f2448 f2450) (W := 0) (by decide) (by decide) (by decide) (by decide) rfl (by rw [hml]; rfl) (lenOf own_pd6 rfl) rfl (by show 2 * 0 + _ ≤ _; exact Nat.le_of_eq rfl) (hb hby d16_79) (fun T2451 h2453 v2454 Y2452 q2455 => ?_)
     obtain ⟨rfl, rfl⟩ := q2455
     show own_Ends _ _ _ _ (T2451.setTop (mkF m 82 #[rv r0, iv 3, .val .null, rv b2337, rv b2349, .val .null, .val .null, iv 0, .val (.long ((0 : Int64) + (n00.toInt64))), .second, iv 1, iv 0, iv j_00] [(.int e0)]))
     refine o_istore Y2452 hx hby d16_82 rfl (l' := #[rv r0, iv 3, .val .null, rv b2337, rv b2349, .val .null, .val .null, iv 0, .val (.long ((0 : Int64) + (n00.toInt64))), .second, iv 1, iv 0, iv e0]) rfl ?_
     show own_Ends _ _ _ _ (T2451.setTop (mkF m 84 #[rv r0, iv 3, .val .null, rv b2337, rv b2349, .val .null, .val .null, iv 0, .val (.long ((0 : Int64) + (n00.toInt64))), .second, iv 1, iv 0, iv e0] []))
     have hL2456 : ∀ (k_01 : Nat) (T2457 : State) (h2459 : Heap) (i_01 : Nat) (j_01 c_01 : Int32) (sv_01 : List Int32) (Y2458 : own_S p l e ({ frames := 2, cells := 7, slots := 31, locals := 78 } : Room) s m #[(.ref r0)] below meth c n0 T2457 h2459 2 7) (z2460 : n0 ≤ h2459.size) (f2461 : Exa Z h2459 r0 "kombos/graph/Graph") (f2462 : Fld Z h2459 r0 "kombos/graph/Graph" "edgeStart" "[I" (.ref ea)) (f2463 : Fld Z h2459 r0 "kombos/graph/Graph" "edgeTarget" "[I" (.ref ga)) (f2464 : own_A Z h2459 ea .int [(.int 0), (.int e0), (.int e1), (.int e2)]) (f2465 : own_A Z h2459 ga .int (GG.map Value.int)) (f2466 : own_A Z h2459 b2337 .int [(.int 0), (.int u00), (.int 0), (.int 0)]) (f2467 : own_A Z h2459 b2349 .int (sv_01.map Value.int)) (hj_01 : j_01.toInt = (i_01 : Int)) (hik_01 : i_01 + k_01 = l1) (hR_01 : own_i0 GG (1 : Int32) k_01 i_01 sv_01 c_01 = some (sn02, n01)), own_Ends p.tables e below (own_P s n0 (own_Q_own_rm16 Z u10 u11 u12 bn3 mm2 h0 n0) ({ frames := 2, cells := 7, slots := 31, locals := 78 } : Room).cells ({ frames := 2, cells := 7, slots := 31, locals := 78 } : Room).slots) (T2457.setTop (mkF m 84 #[rv r0, iv 3, .val .null, rv b2337, rv b2349, .val .null, .val .null, iv 0, .val (.long ((0 : Int64) + (n00.toInt64))), .second, iv 1, iv c_01, iv j_01] [])) := by
      intro k_01
      induction k_01 using Nat.strongRecOn with
      | _ k_01 ih_01 =>
       intro T2457 h2459 i_01 j_01 c_01 sv_01 Y2458 z2460 f2461 f2462 f2463 f2464 f2465 f2466 f2467 hj_01 hik_01 hR_01
       obtain ⟨hj0_01, hj1_01⟩ := own_nat hj_01
       refine o_iload Y2458 hx hby d16_84 rfl ?_
       refine o_aloadN Y2458 hx hby d16_86 rfl rfl ?_
       refine o_iload Y2458 hx hby d16_87 rfl ?_
       refine own_callV Y2458 hx hZ (y := (⟨"kombos/graph/Graph", "endEdge", "(I)I"⟩ : MethodName)) (z := (⟨"kombos/graph/Graph", "endEdge", "(I)I"⟩ : MethodName)) hown (own_w hw 170 rfl) (own_w hw 171 rfl) (notFace_of_selects (args := #[]) (mvT hZ (own_w hw 173 rfl))) (own_w hw 173 rfl) (own_w hw 172 rfl) (own_w hw 113 rfl) (own_w hw 174 rfl) (by decide) (a := r0) f2461 (argsL := [(.int 1)]) (rest := [(.int j_01)]) (own_rm21_1 l Z a0 hw [] r0 ea e0 e1 e2 h2459 n0  f2461 f2462 f2464) (W := 1) (by decide) (by decide) (by decide) (by decide) rfl (by rw [hml]; rfl) (lenOf own_pd6 rfl) rfl (by show 2 * 0 + _ ≤ _; exact Nat.le_of_eq rfl) (hb hby d16_89) (fun T2468 h2470 v2471 Y2469 q2472 => ?_)
       obtain ⟨rfl, rfl⟩ := q2472
       show own_Ends _ _ _ _ (T2468.setTop (mkF m 92 #[rv r0, iv 3, .val .null, rv b2337, rv b2349, .val .null, .val .null, iv 0, .val (.long ((0 : Int64) + (n00.toInt64))), .second, iv 1, iv c_01, iv j_01] [(.int e1), (.int j_01)]))
       by_cases c92_2473 : j_01 < e1
       ·
        refine o_icmpNo Y2469 hx hby d16_92 rfl (XT.ii_ge_f c92_2473) ?_
        show own_Ends _ _ _ _ (T2468.setTop (mkF m 95 #[rv r0, iv 3, .val .null, rv b2337, rv b2349, .val .null, .val .null, iv 0, .val (.long ((0 : Int64) + (n00.toInt64))), .second, iv 1, iv c_01, iv j_01] []))
        have hlt_01 : i_01 < l1 := by have := c92_2473; rw [own_lt, hj_01, hl1] at this; omega
        obtain ⟨kk_01, rfl⟩ : ∃ q, k_01 = q + 1 := ⟨k_01 - 1, by omega⟩
        obtain ⟨elt_01, ok_01, hR2_01⟩ := own_i0_inv hR_01
        refine o_iload Y2469 hx hby d16_95 rfl ?_
        refine o_aloadN Y2469 hx hby d16_97 rfl rfl ?_
        refine o_iload Y2469 hx hby d16_98 rfl ?_
        refine own_callV Y2469 hx hZ (y := (⟨"kombos/graph/Graph", "target", "(I)I"⟩ : MethodName)) (z := (⟨"kombos/graph/Graph", "target", "(I)I"⟩ : MethodName)) hown (own_w hw 278 rfl) (own_w hw 279 rfl) (notFace_of_selects (args := #[]) (mvT hZ (own_w hw 281 rfl))) (own_w hw 281 rfl) (own_w hw 280 rfl) (own_w hw 113 rfl) (own_w hw 282 rfl) (by decide) (a := r0) f2461 (argsL := [(.int j_01)]) (rest := [(.int c_01)]) (own_rm35 l Z a0 hw [] r0 j_01 ga GG i_01 h2459 n0  f2461 f2463 f2465 hj_01 elt_01) (W := 1) (by decide) (by decide) (by decide) (by decide) rfl (by rw [hml]; rfl) (lenOf own_pd6 rfl) rfl (by show 2 * 0 + _ ≤ _; exact Nat.le_of_eq rfl) (hb hby d16_100) (fun T2474 h2476 v2477 Y2475 q2478 => ?_)
        obtain ⟨rfl, rfl⟩ := q2478
        show own_Ends _ _ _ _ (T2474.setTop (mkF m 103 #[rv r0, iv 3, .val .null, rv b2337, rv b2349, .val .null, .val .null, iv 0, .val (.long ((0 : Int64) + (n00.toInt64))), .second, iv 1, iv c_01, iv j_01] [(.int (own_g GG i_01)), (.int c_01)]))
        refine o_iload Y2475 hx hby d16_103 rfl ?_
        refine o_aload Y2475 hx hby d16_105 rfl rfl ?_
        refine o_aload Y2475 hx hby d16_107 rfl rfl ?_
        refine o_aload Y2475 hx hby d16_109 rfl rfl ?_
        refine own_callS Y2475 hx hZ (y := (⟨"kombos/query/SimpleGraph", "note", "(II[I[I[I)I"⟩ : MethodName)) hown (own_w hw 283 rfl) (own_w hw 284 rfl) (own_w hw 148 rfl) (own_w hw 285 rfl) (by decide) (argsL := [(.int (own_g GG i_01)), (.int 1), (.ref b2349), .null, .null]) (rest := [(.int c_01)]) (own_rm36_0 l Z a0 hw [] (own_g GG i_01) (1 : Int32) b2349 sv_01 h2459 n0  f2467 ok_01 g2360) (W := 1) (by decide) (by decide) (by decide) (by decide) rfl (by rw [hml]; rfl) (lenOf own_pd13 rfl) rfl (by show 2 * 0 + _ ≤ _; exact Nat.le_of_eq rfl) (hb hby d16_111) (fun T2479 h2481 v2482 Y2480 q2483 => ?_)
        obtain ⟨rfl, K2484, A2485⟩ := q2483
        show own_Ends _ _ _ _ (T2479.setTop (mkF m 114 #[rv r0, iv 3, .val .null, rv b2337, rv b2349, .val .null, .val .null, iv 0, .val (.long ((0 : Int64) + (n00.toInt64))), .second, iv 1, iv c_01, iv j_01] [(.int (own_ni sv_01 (own_g GG i_01) (1 : Int32))), (.int c_01)]))
        refine o_iadd Y2480 hx hby d16_114 rfl rfl ?_
        refine o_istore Y2480 hx hby d16_115 rfl (l' := #[rv r0, iv 3, .val .null, rv b2337, rv b2349, .val .null, .val .null, iv 0, .val (.long ((0 : Int64) + (n00.toInt64))), .second, iv 1, iv (c_01 + (own_ni sv_01 (own_g GG i_01) (1 : Int32))), iv j_01]) rfl ?_
        refine o_iinc Y2480 hx hby d16_117 rfl (l' := #[rv r0, iv 3, .val .null, rv b2337, rv b2349, .val .null, .val .null, iv 0, .val (.long ((0 : Int64) + (n00.toInt64))), .second, iv 1, iv (c_01 + (own_ni sv_01 (own_g GG i_01) (1 : Int32))), iv (j_01 + (1 : Int32))]) rfl ?_
        refine o_goto Y2480 hx hby (pc' := 84) d16_120 (by decide) (by decide) ?_
        have z2486 : n0 ≤ h2481.size := Nat.le_trans z2460 K2484.1
        have f2487 := f2461.keep K2484
        have f2488 := f2462.keep K2484 (ninS ne2352 nin0)
        have f2489 := f2463.keep K2484 (ninS ne2352 nin0)
        have f2490 := f2464.keep K2484 (ninS ne2356 nin0)
        have f2491 := f2465.keep K2484 (ninS ne2358 nin0)
        have f2492 := f2466.keep K2484 (ninS ne2359 nin0)
        exact ih_01 kk_01 (by omega) T2479 h2481 (i_01 + 1) ((j_01 + (1 : Int32))) ((c_01 + (own_ni sv_01 (own_g GG i_01) (1 : Int32)))) ((own_ns sv_01 (own_g GG i_01) (1 : Int32))) Y2480 z2486 f2487 f2488 f2489 f2490 f2491 f2492 A2485 (own_inc hj_01 (by omega)) (by omega) hR2_01
       ·
        refine o_icmpYes Y2469 hx hby (pc' := 123) d16_92 rfl (XT.ii_ge_t c92_2473) (by decide) (by decide) ?_
        show own_Ends _ _ _ _ (T2468.setTop (mkF m 123 #[rv r0, iv 3, .val .null, rv b2337, rv b2349, .val .null, .val .null, iv 0, .val (.long ((0 : Int64) + (n00.toInt64))), .second, iv 1, iv c_01, iv j_01] []))
        have hk0_01 : k_01 = 0 := by have := c92_2473; rw [own_lt, hj_01, hl1] at this; omega
        subst hk0_01
        have he_01 : sn02 = sv_01 ∧ n01 = c_01 := by have q := hR_01; simp only [own_i0, Option.some.injEq, Prod.mk.injEq] at q; simp [q]
        obtain ⟨rfl, rfl⟩ := he_01
        show own_Ends _ _ _ _ (T2468.setTop (mkF m 123 #[rv r0, iv 3, .val .null, rv b2337, rv b2349, .val .null, .val .null, iv 0, .val (.long ((0 : Int64) + (n00.toInt64))), .second, iv 1, iv n01, iv j_01] []))
        refine o_aloadN Y2469 hx hby d16_123 rfl rfl ?_
        refine o_ifnullYes Y2469 hx hby (pc' := 174) d16_124 rfl (by decide) (by decide) ?_
        refine o_lload Y2469 hx hby d16_174 rfl ?_
        refine o_iload Y2469 hx hby d16_176 rfl ?_
        refine o_i2l Y2469 hx hby d16_178 rfl rfl ?_
        refine o_ladd Y2469 hx hby d16_179 rfl rfl ?_
        refine own_st (fun t_ => XS.lstore (own_here Y2469) hx rfl (hb hby d16_180) rfl (l' := #[rv r0, iv 3, .val .null, rv b2337, rv b2349, .val .null, .val .null, iv 0, .val (.long (((0 : Int64) + (n00.toInt64)) + (n01.toInt64))), .second, iv 1, iv n01, iv j_01]) rfl) ?_
        show own_Ends _ _ _ _ (T2468.setTop (mkF m 182 #[rv r0, iv 3, .val .null, rv b2337, rv b2349, .val .null, .val .null, iv 0, .val (.long (((0 : Int64) + (n00.toInt64)) + (n01.toInt64))), .second, iv 1, iv n01, iv j_01] []))
        refine o_aloadN Y2469 hx hby d16_182 rfl rfl ?_
        refine o_iload Y2469 hx hby d16_183 rfl ?_
        refine o_iconst Y2469 hx hby d16_185 (x := 1) rfl ?_
        refine o_iadd Y2469 hx hby d16_186 rfl (z := 2) rfl ?_
        refine o_lload Y2469 hx hby d16_187 rfl ?_
        refine own_ldcJ Y2469 hx hZ hown (own_w hw 175 rfl) rfl (hb hby d16_189) ?_
        show own_Ends _ _ _ _ (T2468.setTop (mkF m 192 #[rv r0, iv 3, .val .null, rv b2337, rv b2349, .val .null, .val .null, iv 0, .val (.long (((0 : Int64) + (n00.toInt64)) + (n01.toInt64))), .second, iv 1, iv n01, iv j_01] [(.long 2147483647), (.long (((0 : Int64) + (n00.toInt64)) + (n01.toInt64))), (.int 2), (.ref b2337)]))
        refine own_callS Y2469 hx hZ (y := (⟨"java/lang/Math", "min", "(JJ)J"⟩ : MethodName)) hown (own_w hw 176 rfl) (own_w hw 177 rfl) (own_w hw 178 rfl) (own_w hw 179 rfl) (by decide) (argsL := [(.long (((0 : Int64) + (n00.toInt64)) + (n01.toInt64))), (.long 2147483647)]) (rest := [(.int 2), (.ref b2337)]) (own_rm22 l Z a0 hw [] (((0 : Int64) + (n00.toInt64)) + (n01.toInt64)) (2147483647 : Int64)  h2459 n0  ) (W := 2) (by decide) (by decide) (by decide) (by decide) rfl (by rw [hml]; rfl) (lenOf own_pd14 rfl) rfl (by show 2 * 0 + _ ≤ _; exact Nat.le_of_eq rfl) (hb hby d16_192) (fun T2493 h2495 v2496 Y2494 q2497 => ?_)
        obtain ⟨rfl, rfl⟩ := q2497
        show own_Ends _ _ _ _ (T2493.setTop (mkF m 195 #[rv r0, iv 3, .val .null, rv b2337, rv b2349, .val .null, .val .null, iv 0, .val (.long (((0 : Int64) + (n00.toInt64)) + (n01.toInt64))), .second, iv 1, iv n01, iv j_01] [(.long (own_minL (((0 : Int64) + (n00.toInt64)) + (n01.toInt64)) (2147483647 : Int64))), (.int 2), (.ref b2337)]))
        refine o_l2i Y2494 hx hby d16_195 rfl rfl ?_
        show own_Ends _ _ _ _ (T2493.setTop (mkF m 196 #[rv r0, iv 3, .val .null, rv b2337, rv b2349, .val .null, .val .null, iv 0, .val (.long (((0 : Int64) + (n00.toInt64)) + (n01.toInt64))), .second, iv 1, iv n01, iv j_01] [(.int ((own_minL (((0 : Int64) + (n00.toInt64)) + (n01.toInt64)) (2147483647 : Int64)).toInt32)), (.int 2), (.ref b2337)]))
        rw [hu01]
        show own_Ends _ _ _ _ (T2493.setTop (mkF m 196 #[rv r0, iv 3, .val .null, rv b2337, rv b2349, .val .null, .val .null, iv 0, .val (.long (((0 : Int64) + (n00.toInt64)) + (n01.toInt64))), .second, iv 1, iv n01, iv j_01] [(.int u01), (.int 2), (.ref b2337)]))
        refine p_stI Y2494 hx hZ f2466 g2343 (i := 2) (by decide) (by decide) (Nat.le_of_ble_eq_true rfl) hby rfl d16_196 (fun T2498 h2500 Y2499 W2501 A2502 => ?_)
        replace A2502 : own_A Z h2500 b2337 .int [(.int 0), (.int u00), (.int u01), (.int 0)] := A2502
        refine o_iinc Y2499 hx hby d16_197 rfl (l' := #[rv r0, iv 3, .val .null, rv b2337, rv b2349, .val .null, .val .null, iv 0, .val (.long (((0 : Int64) + (n00.toInt64)) + (n01.toInt64))), .second, iv 2, iv n01, iv j_01]) rfl ?_
        refine o_goto Y2499 hx hby (pc' := 60) d16_200 (by decide) (by decide) ?_
        refine o_iload Y2499 hx hby d16_60 rfl ?_
        refine o_iloadN Y2499 hx hby d16_62 rfl ?_
        refine o_icmpNo Y2499 hx hby d16_63 rfl (XT.ii_ge_f (by decide)) ?_
        refine o_aload Y2499 hx hby d16_66 rfl rfl ?_
        refine o_iload Y2499 hx hby d16_68 rfl ?_
        refine o_iload Y2499 hx hby d16_70 rfl ?_
        have f2503 := f2467.other W2501 (Ne.symm ne2359)
        refine p_stI Y2499 hx hZ f2503 g2360 (i := 2) (by decide) (by decide) (own_mlen (by rw [ls02]; decide)) hby rfl d16_72 (fun T2504 h2506 Y2505 W2507 A2508 => ?_)
        show own_Ends _ _ _ _ (T2504.setTop (mkF m 73 #[rv r0, iv 3, .val .null, rv b2337, rv b2349, .val .null, .val .null, iv 0, .val (.long (((0 : Int64) + (n00.toInt64)) + (n01.toInt64))), .second, iv 2, iv n01, iv j_01] []))
        have A2509 : own_A Z h2506 b2349 .int ((sn02.set 2 (2 : Int32)).map Value.int) := by have q := A2508; simpa only [List.map_set] using q
        refine o_iconst Y2505 hx hby d16_73 (x := 0) rfl ?_
        refine o_istore Y2505 hx hby d16_74 rfl (l' := #[rv r0, iv 3, .val .null, rv b2337, rv b2349, .val .null, .val .null, iv 0, .val (.long (((0 : Int64) + (n00.toInt64)) + (n01.toInt64))), .second, iv 2, iv 0, iv j_01]) rfl ?_
        refine o_aloadN Y2505 hx hby d16_76 rfl rfl ?_
        refine o_iload Y2505 hx hby d16_77 rfl ?_
        have f2510 := f2461.wr W2501
        have f2511 := f2510.wr W2507
        have f2512 := f2462.other W2501 (Or.inl ne2339)
        have f2513 := f2512.other W2507 (Or.inl ne2352)
        have f2514 := f2464.other W2501 ne2341
        have f2515 := f2514.other W2507 ne2356
        refine own_callV Y2505 hx hZ (y := (⟨"kombos/graph/Graph", "firstEdge", "(I)I"⟩ : MethodName)) (z := (⟨"kombos/graph/Graph", "firstEdge", "(I)I"⟩ : MethodName)) hown (own_w hw 165 rfl) (own_w hw 166 rfl) (notFace_of_selects (args := #[]) (mvT hZ (own_w hw 168 rfl))) (own_w hw 168 rfl) (own_w hw 167 rfl) (own_w hw 113 rfl) (own_w hw 169 rfl) (by decide) (a := r0) f2511 (argsL := [(.int 2)]) (rest := []) (own_rm20_2 l Z a0 hw [] r0 ea e0 e1 e2 h2506 n0  f2511 f2513 f2515) (W := 0) (by decide) (by decide) (by decide) (by decide) rfl (by rw [hml]; rfl) (lenOf own_pd6 rfl) rfl (by show 2 * 0 + _ ≤ _; exact Nat.le_of_eq rfl) (hb hby d16_79) (fun T2516 h2518 v2519 Y2517 q2520 => ?_)
        obtain ⟨rfl, rfl⟩ := q2520
        show own_Ends _ _ _ _ (T2516.setTop (mkF m 82 #[rv r0, iv 3, .val .null, rv b2337, rv b2349, .val .null, .val .null, iv 0, .val (.long (((0 : Int64) + (n00.toInt64)) + (n01.toInt64))), .second, iv 2, iv 0, iv j_01] [(.int e1)]))
        refine o_istore Y2517 hx hby d16_82 rfl (l' := #[rv r0, iv 3, .val .null, rv b2337, rv b2349, .val .null, .val .null, iv 0, .val (.long (((0 : Int64) + (n00.toInt64)) + (n01.toInt64))), .second, iv 2, iv 0, iv e1]) rfl ?_
        show own_Ends _ _ _ _ (T2516.setTop (mkF m 84 #[rv r0, iv 3, .val .null, rv b2337, rv b2349, .val .null, .val .null, iv 0, .val (.long (((0 : Int64) + (n00.toInt64)) + (n01.toInt64))), .second, iv 2, iv 0, iv e1] []))
        have hL2521 : ∀ (k_02 : Nat) (T2522 : State) (h2524 : Heap) (i_02 : Nat) (j_02 c_02 : Int32) (sv_02 : List Int32) (Y2523 : own_S p l e ({ frames := 2, cells := 7, slots := 31, locals := 78 } : Room) s m #[(.ref r0)] below meth c n0 T2522 h2524 2 7) (z2525 : n0 ≤ h2524.size) (f2526 : Exa Z h2524 r0 "kombos/graph/Graph") (f2527 : Fld Z h2524 r0 "kombos/graph/Graph" "edgeStart" "[I" (.ref ea)) (f2528 : Fld Z h2524 r0 "kombos/graph/Graph" "edgeTarget" "[I" (.ref ga)) (f2529 : own_A Z h2524 ea .int [(.int 0), (.int e0), (.int e1), (.int e2)]) (f2530 : own_A Z h2524 ga .int (GG.map Value.int)) (f2531 : own_A Z h2524 b2337 .int [(.int 0), (.int u00), (.int u01), (.int 0)]) (f2532 : own_A Z h2524 b2349 .int (sv_02.map Value.int)) (hj_02 : j_02.toInt = (i_02 : Int)) (hik_02 : i_02 + k_02 = l2) (hR_02 : own_i0 GG (2 : Int32) k_02 i_02 sv_02 c_02 = some (sn03, n02)), own_Ends p.tables e below (own_P s n0 (own_Q_own_rm16 Z u10 u11 u12 bn3 mm2 h0 n0) ({ frames := 2, cells := 7, slots := 31, locals := 78 } : Room).cells ({ frames := 2, cells := 7, slots := 31, locals := 78 } : Room).slots) (T2522.setTop (mkF m 84 #[rv r0, iv 3, .val .null, rv b2337, rv b2349, .val .null, .val .null, iv 0, .val (.long (((0 : Int64) + (n00.toInt64)) + (n01.toInt64))), .second, iv 2, iv c_02, iv j_02] [])) := by
         intro k_02
         induction k_02 using Nat.strongRecOn with
         | _ k_02 ih_02 =>
          intro T2522 h2524 i_02 j_02 c_02 sv_02 Y2523 z2525 f2526 f2527 f2528 f2529 f2530 f2531 f2532 hj_02 hik_02 hR_02
          obtain ⟨hj0_02, hj1_02⟩ := own_nat hj_02
          refine o_iload Y2523 hx hby d16_84 rfl ?_
          refine o_aloadN Y2523 hx hby d16_86 rfl rfl ?_
          refine o_iload Y2523 hx hby d16_87 rfl ?_
          refine own_callV Y2523 hx hZ (y := (⟨"kombos/graph/Graph", "endEdge", "(I)I"⟩ : MethodName)) (z := (⟨"kombos/graph/Graph", "endEdge", "(I)I"⟩ : MethodName)) hown (own_w hw 170 rfl) (own_w hw 171 rfl) (notFace_of_selects (args := #[]) (mvT hZ (own_w hw 173 rfl))) (own_w hw 173 rfl) (own_w hw 172 rfl) (own_w hw 113 rfl) (own_w hw 174 rfl) (by decide) (a := r0) f2526 (argsL := [(.int 2)]) (rest := [(.int j_02)]) (own_rm21_2 l Z a0 hw [] r0 ea e0 e1 e2 h2524 n0  f2526 f2527 f2529) (W := 1) (by decide) (by decide) (by decide) (by decide) rfl (by rw [hml]; rfl) (lenOf own_pd6 rfl) rfl (by show 2 * 0 + _ ≤ _; exact Nat.le_of_eq rfl) (hb hby d16_89) (fun T2533 h2535 v2536 Y2534 q2537 => ?_)
          obtain ⟨rfl, rfl⟩ := q2537
          show own_Ends _ _ _ _ (T2533.setTop (mkF m 92 #[rv r0, iv 3, .val .null, rv b2337, rv b2349, .val .null, .val .null, iv 0, .val (.long (((0 : Int64) + (n00.toInt64)) + (n01.toInt64))), .second, iv 2, iv c_02, iv j_02] [(.int e2), (.int j_02)]))
          by_cases c92_2538 : j_02 < e2
          ·
           refine o_icmpNo Y2534 hx hby d16_92 rfl (XT.ii_ge_f c92_2538) ?_
           show own_Ends _ _ _ _ (T2533.setTop (mkF m 95 #[rv r0, iv 3, .val .null, rv b2337, rv b2349, .val .null, .val .null, iv 0, .val (.long (((0 : Int64) + (n00.toInt64)) + (n01.toInt64))), .second, iv 2, iv c_02, iv j_02] []))
           have hlt_02 : i_02 < l2 := by have := c92_2538; rw [own_lt, hj_02, hl2] at this; omega
           obtain ⟨kk_02, rfl⟩ : ∃ q, k_02 = q + 1 := ⟨k_02 - 1, by omega⟩
           obtain ⟨elt_02, ok_02, hR2_02⟩ := own_i0_inv hR_02
           refine o_iload Y2534 hx hby d16_95 rfl ?_
           refine o_aloadN Y2534 hx hby d16_97 rfl rfl ?_
           refine o_iload Y2534 hx hby d16_98 rfl ?_
           refine own_callV Y2534 hx hZ (y := (⟨"kombos/graph/Graph", "target", "(I)I"⟩ : MethodName)) (z := (⟨"kombos/graph/Graph", "target", "(I)I"⟩ : MethodName)) hown (own_w hw 278 rfl) (own_w hw 279 rfl) (notFace_of_selects (args := #[]) (mvT hZ (own_w hw 281 rfl))) (own_w hw 281 rfl) (own_w hw 280 rfl) (own_w hw 113 rfl) (own_w hw 282 rfl) (by decide) (a := r0) f2526 (argsL := [(.int j_02)]) (rest := [(.int c_02)]) (own_rm35 l Z a0 hw [] r0 j_02 ga GG i_02 h2524 n0  f2526 f2528 f2530 hj_02 elt_02) (W := 1) (by decide) (by decide) (by decide) (by decide) rfl (by rw [hml]; rfl) (lenOf own_pd6 rfl) rfl (by show 2 * 0 + _ ≤ _; exact Nat.le_of_eq rfl) (hb hby d16_100) (fun T2539 h2541 v2542 Y2540 q2543 => ?_)
           obtain ⟨rfl, rfl⟩ := q2543
           show own_Ends _ _ _ _ (T2539.setTop (mkF m 103 #[rv r0, iv 3, .val .null, rv b2337, rv b2349, .val .null, .val .null, iv 0, .val (.long (((0 : Int64) + (n00.toInt64)) + (n01.toInt64))), .second, iv 2, iv c_02, iv j_02] [(.int (own_g GG i_02)), (.int c_02)]))
           refine o_iload Y2540 hx hby d16_103 rfl ?_
           refine o_aload Y2540 hx hby d16_105 rfl rfl ?_
           refine o_aload Y2540 hx hby d16_107 rfl rfl ?_
           refine o_aload Y2540 hx hby d16_109 rfl rfl ?_
           refine own_callS Y2540 hx hZ (y := (⟨"kombos/query/SimpleGraph", "note", "(II[I[I[I)I"⟩ : MethodName)) hown (own_w hw 283 rfl) (own_w hw 284 rfl) (own_w hw 148 rfl) (own_w hw 285 rfl) (by decide) (argsL := [(.int (own_g GG i_02)), (.int 2), (.ref b2349), .null, .null]) (rest := [(.int c_02)]) (own_rm36_0 l Z a0 hw [] (own_g GG i_02) (2 : Int32) b2349 sv_02 h2524 n0  f2532 ok_02 g2360) (W := 1) (by decide) (by decide) (by decide) (by decide) rfl (by rw [hml]; rfl) (lenOf own_pd13 rfl) rfl (by show 2 * 0 + _ ≤ _; exact Nat.le_of_eq rfl) (hb hby d16_111) (fun T2544 h2546 v2547 Y2545 q2548 => ?_)
           obtain ⟨rfl, K2549, A2550⟩ := q2548
           show own_Ends _ _ _ _ (T2544.setTop (mkF m 114 #[rv r0, iv 3, .val .null, rv b2337, rv b2349, .val .null, .val .null, iv 0, .val (.long (((0 : Int64) + (n00.toInt64)) + (n01.toInt64))), .second, iv 2, iv c_02, iv j_02] [(.int (own_ni sv_02 (own_g GG i_02) (2 : Int32))), (.int c_02)]))
           refine o_iadd Y2545 hx hby d16_114 rfl rfl ?_
           refine o_istore Y2545 hx hby d16_115 rfl (l' := #[rv r0, iv 3, .val .null, rv b2337, rv b2349, .val .null, .val .null, iv 0, .val (.long (((0 : Int64) + (n00.toInt64)) + (n01.toInt64))), .second, iv 2, iv (c_02 + (own_ni sv_02 (own_g GG i_02) (2 : Int32))), iv j_02]) rfl ?_
           refine o_iinc Y2545 hx hby d16_117 rfl (l' := #[rv r0, iv 3, .val .null, rv b2337, rv b2349, .val .null, .val .null, iv 0, .val (.long (((0 : Int64) + (n00.toInt64)) + (n01.toInt64))), .second, iv 2, iv (c_02 + (own_ni sv_02 (own_g GG i_02) (2 : Int32))), iv (j_02 + (1 : Int32))]) rfl ?_
           refine o_goto Y2545 hx hby (pc' := 84) d16_120 (by decide) (by decide) ?_
           have z2551 : n0 ≤ h2546.size := Nat.le_trans z2525 K2549.1
           have f2552 := f2526.keep K2549
           have f2553 := f2527.keep K2549 (ninS ne2352 nin0)
           have f2554 := f2528.keep K2549 (ninS ne2352 nin0)
           have f2555 := f2529.keep K2549 (ninS ne2356 nin0)
           have f2556 := f2530.keep K2549 (ninS ne2358 nin0)
           have f2557 := f2531.keep K2549 (ninS ne2359 nin0)
           exact ih_02 kk_02 (by omega) T2544 h2546 (i_02 + 1) ((j_02 + (1 : Int32))) ((c_02 + (own_ni sv_02 (own_g GG i_02) (2 : Int32)))) ((own_ns sv_02 (own_g GG i_02) (2 : Int32))) Y2545 z2551 f2552 f2553 f2554 f2555 f2556 f2557 A2550 (own_inc hj_02 (by omega)) (by omega) hR2_02
          ·
           refine o_icmpYes Y2534 hx hby (pc' := 123) d16_92 rfl (XT.ii_ge_t c92_2538) (by decide) (by decide) ?_
           show own_Ends _ _ _ _ (T2533.setTop (mkF m 123 #[rv r0, iv 3, .val .null, rv b2337, rv b2349, .val .null, .val .null, iv 0, .val (.long (((0 : Int64) + (n00.toInt64)) + (n01.toInt64))), .second, iv 2, iv c_02, iv j_02] []))
           have hk0_02 : k_02 = 0 := by have := c92_2538; rw [own_lt, hj_02, hl2] at this; omega
           subst hk0_02
           have he_02 : sn03 = sv_02 ∧ n02 = c_02 := by have q := hR_02; simp only [own_i0, Option.some.injEq, Prod.mk.injEq] at q; simp [q]
           obtain ⟨rfl, rfl⟩ := he_02
           show own_Ends _ _ _ _ (T2533.setTop (mkF m 123 #[rv r0, iv 3, .val .null, rv b2337, rv b2349, .val .null, .val .null, iv 0, .val (.long (((0 : Int64) + (n00.toInt64)) + (n01.toInt64))), .second, iv 2, iv n02, iv j_02] []))
           refine o_aloadN Y2534 hx hby d16_123 rfl rfl ?_
           refine o_ifnullYes Y2534 hx hby (pc' := 174) d16_124 rfl (by decide) (by decide) ?_
           refine o_lload Y2534 hx hby d16_174 rfl ?_
           refine o_iload Y2534 hx hby d16_176 rfl ?_
           refine o_i2l Y2534 hx hby d16_178 rfl rfl ?_
           refine o_ladd Y2534 hx hby d16_179 rfl rfl ?_
           refine own_st (fun t_ => XS.lstore (own_here Y2534) hx rfl (hb hby d16_180) rfl (l' := #[rv r0, iv 3, .val .null, rv b2337, rv b2349, .val .null, .val .null, iv 0, .val (.long ((((0 : Int64) + (n00.toInt64)) + (n01.toInt64)) + (n02.toInt64))), .second, iv 2, iv n02, iv j_02]) rfl) ?_
           show own_Ends _ _ _ _ (T2533.setTop (mkF m 182 #[rv r0, iv 3, .val .null, rv b2337, rv b2349, .val .null, .val .null, iv 0, .val (.long ((((0 : Int64) + (n00.toInt64)) + (n01.toInt64)) + (n02.toInt64))), .second, iv 2, iv n02, iv j_02] []))
           refine o_aloadN Y2534 hx hby d16_182 rfl rfl ?_
           refine o_iload Y2534 hx hby d16_183 rfl ?_
           refine o_iconst Y2534 hx hby d16_185 (x := 1) rfl ?_
           refine o_iadd Y2534 hx hby d16_186 rfl (z := 3) rfl ?_
           refine o_lload Y2534 hx hby d16_187 rfl ?_
           refine own_ldcJ Y2534 hx hZ hown (own_w hw 175 rfl) rfl (hb hby d16_189) ?_
           show own_Ends _ _ _ _ (T2533.setTop (mkF m 192 #[rv r0, iv 3, .val .null, rv b2337, rv b2349, .val .null, .val .null, iv 0, .val (.long ((((0 : Int64) + (n00.toInt64)) + (n01.toInt64)) + (n02.toInt64))), .second, iv 2, iv n02, iv j_02] [(.long 2147483647), (.long ((((0 : Int64) + (n00.toInt64)) + (n01.toInt64)) + (n02.toInt64))), (.int 3), (.ref b2337)]))
           refine own_callS Y2534 hx hZ (y := (⟨"java/lang/Math", "min", "(JJ)J"⟩ : MethodName)) hown (own_w hw 176 rfl) (own_w hw 177 rfl) (own_w hw 178 rfl) (own_w hw 179 rfl) (by decide) (argsL := [(.long ((((0 : Int64) + (n00.toInt64)) + (n01.toInt64)) + (n02.toInt64))), (.long 2147483647)]) (rest := [(.int 3), (.ref b2337)]) (own_rm22 l Z a0 hw [] ((((0 : Int64) + (n00.toInt64)) + (n01.toInt64)) + (n02.toInt64)) (2147483647 : Int64)  h2524 n0  ) (W := 2) (by decide) (by decide) (by decide) (by decide) rfl (by rw [hml]; rfl) (lenOf own_pd14 rfl) rfl (by show 2 * 0 + _ ≤ _; exact Nat.le_of_eq rfl) (hb hby d16_192) (fun T2558 h2560 v2561 Y2559 q2562 => ?_)
           obtain ⟨rfl, rfl⟩ := q2562
           show own_Ends _ _ _ _ (T2558.setTop (mkF m 195 #[rv r0, iv 3, .val .null, rv b2337, rv b2349, .val .null, .val .null, iv 0, .val (.long ((((0 : Int64) + (n00.toInt64)) + (n01.toInt64)) + (n02.toInt64))), .second, iv 2, iv n02, iv j_02] [(.long (own_minL ((((0 : Int64) + (n00.toInt64)) + (n01.toInt64)) + (n02.toInt64)) (2147483647 : Int64))), (.int 3), (.ref b2337)]))
           refine o_l2i Y2559 hx hby d16_195 rfl rfl ?_
           show own_Ends _ _ _ _ (T2558.setTop (mkF m 196 #[rv r0, iv 3, .val .null, rv b2337, rv b2349, .val .null, .val .null, iv 0, .val (.long ((((0 : Int64) + (n00.toInt64)) + (n01.toInt64)) + (n02.toInt64))), .second, iv 2, iv n02, iv j_02] [(.int ((own_minL ((((0 : Int64) + (n00.toInt64)) + (n01.toInt64)) + (n02.toInt64)) (2147483647 : Int64)).toInt32)), (.int 3), (.ref b2337)]))
           rw [hu02]
           show own_Ends _ _ _ _ (T2558.setTop (mkF m 196 #[rv r0, iv 3, .val .null, rv b2337, rv b2349, .val .null, .val .null, iv 0, .val (.long ((((0 : Int64) + (n00.toInt64)) + (n01.toInt64)) + (n02.toInt64))), .second, iv 2, iv n02, iv j_02] [(.int u02), (.int 3), (.ref b2337)]))
           refine p_stI Y2559 hx hZ f2531 g2343 (i := 3) (by decide) (by decide) (Nat.le_of_ble_eq_true rfl) hby rfl d16_196 (fun T2563 h2565 Y2564 W2566 A2567 => ?_)
           replace A2567 : own_A Z h2565 b2337 .int [(.int 0), (.int u00), (.int u01), (.int u02)] := A2567
           refine o_iinc Y2564 hx hby d16_197 rfl (l' := #[rv r0, iv 3, .val .null, rv b2337, rv b2349, .val .null, .val .null, iv 0, .val (.long ((((0 : Int64) + (n00.toInt64)) + (n01.toInt64)) + (n02.toInt64))), .second, iv 3, iv n02, iv j_02]) rfl ?_
           refine o_goto Y2564 hx hby (pc' := 60) d16_200 (by decide) (by decide) ?_
           refine o_iload Y2564 hx hby d16_60 rfl ?_
           refine o_iloadN Y2564 hx hby d16_62 rfl ?_
           refine o_icmpYes Y2564 hx hby (pc' := 203) d16_63 rfl (XT.ii_ge_t (by decide)) (by decide) (by decide) ?_
           refine o_lload Y2564 hx hby d16_203 rfl ?_
           refine own_ldcJ Y2564 hx hZ hown (own_w hw 180 rfl) rfl (hb hby d16_205) ?_
           show own_Ends _ _ _ _ (T2563.setTop (mkF m 208 #[rv r0, iv 3, .val .null, rv b2337, rv b2349, .val .null, .val .null, iv 0, .val (.long ((((0 : Int64) + (n00.toInt64)) + (n01.toInt64)) + (n02.toInt64))), .second, iv 3, iv n02, iv j_02] [(.long 2147483639), (.long ((((0 : Int64) + (n00.toInt64)) + (n01.toInt64)) + (n02.toInt64)))]))
           refine own_st (fun t_ => XS.lcmp (own_here Y2564) hx rfl (hb hby d16_208) rfl) ?_
           show own_Ends _ _ _ _ (T2563.setTop (mkF m 209 #[rv r0, iv 3, .val .null, rv b2337, rv b2349, .val .null, .val .null, iv 0, .val (.long ((((0 : Int64) + (n00.toInt64)) + (n01.toInt64)) + (n02.toInt64))), .second, iv 3, iv n02, iv j_02] [(.int (lcmpW ((((0 : Int64) + (n00.toInt64)) + (n01.toInt64)) + (n02.toInt64)) (2147483639 : Int64)))]))
           refine o_ifYes Y2564 hx hby (pc' := 222) d16_209 rfl (XT.ll_le_t (by rw [Int64.lt_iff_toInt_lt]; have q := hen0; have e : (2147483639 : Int64).toInt = 2147483639 := rfl; omega)) (by decide) (by decide) ?_
           refine o_aload Y2564 hx hby d16_222 rfl rfl ?_
           refine o_ifnonnullNo Y2564 hx hby d16_224 rfl ?_
           refine o_lload Y2564 hx hby d16_227 rfl ?_
           refine o_l2i Y2564 hx hby d16_229 rfl rfl ?_
           refine own_newP Y2564 hx hZ (own_w hw 99 rfl) rfl (hb hby d16_230) rfl (own_nat hmm).1 (nz := mm2) (cap := 6) (own_nat hmm).2 hmm6 (by decide) (by decide) (by decide) (ty := .int) rfl (fun T2568 h2570 b2573 eb2574 Y2569 E2571 A2572 => ?_)
           have f2575 := f2526.wr W2566
           have ne2576 : r0 ≠ b2573 := Nat.ne_of_lt (by rw [eb2574]; exact f2575.lt)
           have f2577 := f2529.other W2566 ne2341
           have ne2578 : ea ≠ b2573 := Nat.ne_of_lt (by rw [eb2574]; exact f2577.lt)
           have f2579 := f2530.other W2566 ne2342
           have ne2580 : ga ≠ b2573 := Nat.ne_of_lt (by rw [eb2574]; exact f2579.lt)
           have ne2581 : b2337 ≠ b2573 := Nat.ne_of_lt (by rw [eb2574]; exact A2567.lt)
           have f2582 := f2532.other W2566 (Ne.symm ne2359)
           have ne2583 : b2349 ≠ b2573 := Nat.ne_of_lt (by rw [eb2574]; exact f2582.lt)
           have z2585 : n0 ≤ h2565.size := Nat.le_trans z2525 (Nat.le_of_eq W2566.size.symm)
           have g2584 : n0 ≤ b2573 := by rw [eb2574]; exact z2585
           show own_Ends _ _ _ _ (T2568.setTop (mkF m 232 #[rv r0, iv 3, .val .null, rv b2337, rv b2349, .val .null, .val .null, iv 0, .val (.long ((((0 : Int64) + (n00.toInt64)) + (n01.toInt64)) + (n02.toInt64))), .second, iv 3, iv n02, iv j_02] [(.ref b2573)]))
           have A2586 : own_A Z h2570 b2573 .int ((List.replicate mm2 (0 : Int32)).map Value.int) := by rw [List.map_replicate]; exact A2572
           refine o_astore Y2569 hx hby d16_232 rfl rfl (l' := #[rv r0, iv 3, .val .null, rv b2337, rv b2349, rv b2573, .val .null, iv 0, .val (.long ((((0 : Int64) + (n00.toInt64)) + (n01.toInt64)) + (n02.toInt64))), .second, iv 3, iv n02, iv j_02]) rfl ?_
           refine o_aloadN Y2569 hx hby d16_234 rfl rfl ?_
           refine o_iloadN Y2569 hx hby d16_235 rfl ?_
           have f2587 := A2567.ext E2571
           have z2588 : n0 ≤ h2570.size := Nat.le_trans z2585 E2571.1
           refine own_callS Y2569 hx hZ (y := (⟨"java/util/Arrays", "copyOf", "([II)[I"⟩ : MethodName)) hown (own_w hw 181 rfl) (own_w hw 182 rfl) (own_w hw 163 rfl) (own_w hw 183 rfl) (by decide) (argsL := [(.ref b2337), (.int 3)]) (rest := []) (own_rm23 l Z a0 hw [] b2337 (0 : Int32) u00 u01 u02 h2570 n0 z2588 f2587) (W := 0) (by decide) (by decide) (by decide) (by decide) rfl (by rw [hml]; rfl) (lenOf own_pd15 rfl) rfl (by show 2 * 0 + _ ≤ _; exact Nat.le_of_eq rfl) (hb hby d16_236) (fun T2589 h2591 v2592 Y2590 q2593 => ?_)
           obtain ⟨nxa, rfl, K2594, A2595, hz2596⟩ := q2593
           have f2597 := f2575.ext E2571
           have ne2598 : r0 ≠ nxa := Nat.ne_of_lt (Nat.lt_of_lt_of_le f2597.lt hz2596)
           have f2599 := f2577.ext E2571
           have ne2600 : ea ≠ nxa := Nat.ne_of_lt (Nat.lt_of_lt_of_le f2599.lt hz2596)
           have f2601 := f2579.ext E2571
           have ne2602 : ga ≠ nxa := Nat.ne_of_lt (Nat.lt_of_lt_of_le f2601.lt hz2596)
           have ne2603 : b2337 ≠ nxa := Nat.ne_of_lt (Nat.lt_of_lt_of_le f2587.lt hz2596)
           have f2604 := f2582.ext E2571
           have ne2605 : b2349 ≠ nxa := Nat.ne_of_lt (Nat.lt_of_lt_of_le f2604.lt hz2596)
           have ne2606 : b2573 ≠ nxa := Nat.ne_of_lt (Nat.lt_of_lt_of_le A2586.lt hz2596)
           have g2607 : n0 ≤ nxa := Nat.le_trans z2588 hz2596
           show own_Ends _ _ _ _ (T2589.setTop (mkF m 239 #[rv r0, iv 3, .val .null, rv b2337, rv b2349, rv b2573, .val .null, iv 0, .val (.long ((((0 : Int64) + (n00.toInt64)) + (n01.toInt64)) + (n02.toInt64))), .second, iv 3, iv n02, iv j_02] [(.ref nxa)]))
           refine o_astore Y2590 hx hby d16_239 rfl rfl (l' := #[rv r0, iv 3, .val .null, rv b2337, rv b2349, rv b2573, rv nxa, iv 0, .val (.long ((((0 : Int64) + (n00.toInt64)) + (n01.toInt64)) + (n02.toInt64))), .second, iv 3, iv n02, iv j_02]) rfl ?_
           refine o_iinc Y2590 hx hby d16_241 rfl (l' := #[rv r0, iv 3, .val .null, rv b2337, rv b2349, rv b2573, rv nxa, iv 1, .val (.long ((((0 : Int64) + (n00.toInt64)) + (n01.toInt64)) + (n02.toInt64))), .second, iv 3, iv n02, iv j_02]) rfl ?_
           refine o_goto Y2590 hx hby (pc' := 42) d16_244 (by decide) (by decide) ?_
           refine o_iload Y2590 hx hby d16_42 rfl ?_
           refine o_iconst Y2590 hx hby d16_44 (x := 2) rfl ?_
           refine o_icmpNo Y2590 hx hby d16_45 rfl (XT.ii_ge_f (by decide)) ?_
           refine o_aload Y2590 hx hby d16_48 rfl rfl ?_
           refine o_iconst Y2590 hx hby d16_50 (x := (-1)) rfl ?_
           have f2608 := f2604.keep K2594 nin0
           have z2609 : n0 ≤ h2591.size := Nat.le_trans z2588 K2594.1
           refine own_callS Y2590 hx hZ (y := (⟨"java/util/Arrays", "fill", "([II)V"⟩ : MethodName)) hown (own_w hw 161 rfl) (own_w hw 162 rfl) (own_w hw 163 rfl) (own_w hw 164 rfl) (by decide) (argsL := [(.ref b2349), (.int (-1))]) (rest := []) (own_rm19 l Z a0 hw [] b2349 (-1 : Int32) sn03 (3 : Int32) h2591 n0 z2609 f2608 (by rw [ls03]; rfl) g2360) (W := 0) (by decide) (by decide) (by decide) (by decide) rfl (by rw [hml]; rfl) (lenOf own_pd10 rfl) rfl (by show 2 * 0 + _ ≤ _; exact Nat.le_of_eq rfl) (hb hby d16_51) (fun T2610 h2612 v2613 Y2611 q2614 => ?_)
           obtain ⟨rfl, K2615, A2616⟩ := q2614
           rw [ls03] at A2616
           replace A2616 : own_A Z h2612 b2349 .int ([(-1 : Int32), (-1 : Int32), (-1 : Int32)].map Value.int) := A2616
           show own_Ends _ _ _ _ (T2610.setTop (mkF m 54 #[rv r0, iv 3, .val .null, rv b2337, rv b2349, rv b2573, rv nxa, iv 1, .val (.long ((((0 : Int64) + (n00.toInt64)) + (n01.toInt64)) + (n02.toInt64))), .second, iv 3, iv n02, iv j_02] []))
           refine own_st (fun t_ => XS.lconst (own_here Y2611) hx rfl (hb hby d16_54) ) ?_
           show own_Ends _ _ _ _ (T2610.setTop (mkF m 55 #[rv r0, iv 3, .val .null, rv b2337, rv b2349, rv b2573, rv nxa, iv 1, .val (.long ((((0 : Int64) + (n00.toInt64)) + (n01.toInt64)) + (n02.toInt64))), .second, iv 3, iv n02, iv j_02] [(.long 0)]))
           refine own_st (fun t_ => XS.lstore (own_here Y2611) hx rfl (hb hby d16_55) rfl (l' := #[rv r0, iv 3, .val .null, rv b2337, rv b2349, rv b2573, rv nxa, iv 1, .val (.long 0), .second, iv 3, iv n02, iv j_02]) rfl) ?_
           show own_Ends _ _ _ _ (T2610.setTop (mkF m 57 #[rv r0, iv 3, .val .null, rv b2337, rv b2349, rv b2573, rv nxa, iv 1, .val (.long 0), .second, iv 3, iv n02, iv j_02] []))
           refine o_iconst Y2611 hx hby d16_57 (x := 0) rfl ?_
           refine o_istore Y2611 hx hby d16_58 rfl (l' := #[rv r0, iv 3, .val .null, rv b2337, rv b2349, rv b2573, rv nxa, iv 1, .val (.long 0), .second, iv 0, iv n02, iv j_02]) rfl ?_
           refine o_iload Y2611 hx hby d16_60 rfl ?_
           refine o_iloadN Y2611 hx hby d16_62 rfl ?_
           refine o_icmpNo Y2611 hx hby d16_63 rfl (XT.ii_ge_f (by decide)) ?_
           refine o_aload Y2611 hx hby d16_66 rfl rfl ?_
           refine o_iload Y2611 hx hby d16_68 rfl ?_
           refine o_iload Y2611 hx hby d16_70 rfl ?_
           refine p_stI Y2611 hx hZ A2616 g2360 (i := 0) (by decide) (by decide) (own_mlen (by simp)) hby rfl d16_72 (fun T2617 h2619 Y2618 W2620 A2621 => ?_)
           show own_Ends _ _ _ _ (T2617.setTop (mkF m 73 #[rv r0, iv 3, .val .null, rv b2337, rv b2349, rv b2573, rv nxa, iv 1, .val (.long 0), .second, iv 0, iv n02, iv j_02] []))
           have A2622 : own_A Z h2619 b2349 .int ((([(-1 : Int32), (-1 : Int32), (-1 : Int32)]).set 0 (0 : Int32)).map Value.int) := by have q := A2621; exact q
           refine o_iconst Y2618 hx hby d16_73 (x := 0) rfl ?_
           refine o_istore Y2618 hx hby d16_74 rfl (l' := #[rv r0, iv 3, .val .null, rv b2337, rv b2349, rv b2573, rv nxa, iv 1, .val (.long 0), .second, iv 0, iv 0, iv j_02]) rfl ?_
           refine o_aloadN Y2618 hx hby d16_76 rfl rfl ?_
           refine o_iload Y2618 hx hby d16_77 rfl ?_
           have f2623 := f2597.keep K2594
           have f2624 := f2623.keep K2615
           have f2625 := f2624.wr W2620
           have f2626 := f2527.other W2566 (Or.inl ne2339)
           have f2627 := f2626.ext E2571
           have f2628 := f2627.keep K2594 nin0
           have f2629 := f2628.keep K2615 (ninS ne2352 nin0)
           have f2630 := f2629.other W2620 (Or.inl ne2352)
           have f2631 := f2599.keep K2594 nin0
           have f2632 := f2631.keep K2615 (ninS ne2356 nin0)
           have f2633 := f2632.other W2620 ne2356
           refine own_callV Y2618 hx hZ (y := (⟨"kombos/graph/Graph", "firstEdge", "(I)I"⟩ : MethodName)) (z := (⟨"kombos/graph/Graph", "firstEdge", "(I)I"⟩ : MethodName)) hown (own_w hw 165 rfl) (own_w hw 166 rfl) (notFace_of_selects (args := #[]) (mvT hZ (own_w hw 168 rfl))) (own_w hw 168 rfl) (own_w hw 167 rfl) (own_w hw 113 rfl) (own_w hw 169 rfl) (by decide) (a := r0) f2625 (argsL := [(.int 0)]) (rest := []) (own_rm20_0 l Z a0 hw [] r0 ea e0 e1 e2 h2619 n0  f2625 f2630 f2633) (W := 0) (by decide) (by decide) (by decide) (by decide) rfl (by rw [hml]; rfl) (lenOf own_pd6 rfl) rfl (by show 2 * 0 + _ ≤ _; exact Nat.le_of_eq rfl) (hb hby d16_79) (fun T2634 h2636 v2637 Y2635 q2638 => ?_)
           obtain ⟨rfl, rfl⟩ := q2638
           show own_Ends _ _ _ _ (T2634.setTop (mkF m 82 #[rv r0, iv 3, .val .null, rv b2337, rv b2349, rv b2573, rv nxa, iv 1, .val (.long 0), .second, iv 0, iv 0, iv j_02] [(.int 0)]))
           refine o_istore Y2635 hx hby d16_82 rfl (l' := #[rv r0, iv 3, .val .null, rv b2337, rv b2349, rv b2573, rv nxa, iv 1, .val (.long 0), .second, iv 0, iv 0, iv 0]) rfl ?_
           show own_Ends _ _ _ _ (T2634.setTop (mkF m 84 #[rv r0, iv 3, .val .null, rv b2337, rv b2349, rv b2573, rv nxa, iv 1, .val (.long 0), .second, iv 0, iv 0, iv 0] []))
           have hL2639 : ∀ (k_10 : Nat) (T2640 : State) (h2642 : Heap) (i_10 : Nat) (j_10 c_10 : Int32) (sv_10 xv_10 bv_10 : List Int32) (Y2641 : own_S p l e ({ frames := 2, cells := 7, slots := 31, locals := 78 } : Room) s m #[(.ref r0)] below meth c n0 T2640 h2642 4 16) (z2643 : n0 ≤ h2642.size) (f2644 : Exa Z h2642 r0 "kombos/graph/Graph") (f2645 : Fld Z h2642 r0 "kombos/graph/Graph" "edgeStart" "[I" (.ref ea)) (f2646 : Fld Z h2642 r0 "kombos/graph/Graph" "edgeTarget" "[I" (.ref ga)) (f2647 : own_A Z h2642 ea .int [(.int 0), (.int e0), (.int e1), (.int e2)]) (f2648 : own_A Z h2642 ga .int (GG.map Value.int)) (f2649 : own_A Z h2642 b2337 .int [(.int 0), (.int u00), (.int u01), (.int u02)]) (f2650 : own_A Z h2642 b2349 .int (sv_10.map Value.int)) (f2651 : own_A Z h2642 b2573 .int (bv_10.map Value.int)) (f2652 : own_A Z h2642 nxa .int (xv_10.map Value.int)) (hj_10 : j_10.toInt = (i_10 : Int)) (hik_10 : i_10 + k_10 = l0) (hR_10 : own_i1 GG (0 : Int32) k_10 i_10 sv_10 xv_10 bv_10 c_10 = some (sn11, xn1, bn1, n10)), own_Ends p.tables e below (own_P s n0 (own_Q_own_rm16 Z u10 u11 u12 bn3 mm2 h0 n0) ({ frames := 2, cells := 7, slots := 31, locals := 78 } : Room).cells ({ frames := 2, cells := 7, slots := 31, locals := 78 } : Room).slots) (T2640.setTop (mkF m 84 #[rv r0, iv 3, .val .null, rv b2337, rv b2349, rv b2573, rv nxa, iv 1, .val (.long 0), .second, iv 0, iv c_10, iv j_10] [])) := by
            intro k_10
            induction k_10 using Nat.strongRecOn with
            | _ k_10 ih_10 =>
             intro T2640 h2642 i_10 j_10 c_10 sv_10 xv_10 bv_10 Y2641 z2643 f2644 f2645 f2646 f2647 f2648 f2649 f2650 f2651 f2652 hj_10 hik_10 hR_10
             obtain ⟨hj0_10, hj1_10⟩ := own_nat hj_10
             refine o_iload Y2641 hx hby d16_84 rfl ?_
             refine o_aloadN Y2641 hx hby d16_86 rfl rfl ?_
             refine o_iload Y2641 hx hby d16_87 rfl ?_
             refine own_callV Y2641 hx hZ (y := (⟨"kombos/graph/Graph", "endEdge", "(I)I"⟩ : MethodName)) (z := (⟨"kombos/graph/Graph", "endEdge", "(I)I"⟩ : MethodName)) hown (own_w hw 170 rfl) (own_w hw 171 rfl) (notFace_of_selects (args := #[]) (mvT hZ (own_w hw 173 rfl))) (own_w hw 173 rfl) (own_w hw 172 rfl) (own_w hw 113 rfl) (own_w hw 174 rfl) (by decide) (a := r0) f2644 (argsL := [(.int 0)]) (rest := [(.int j_10)]) (own_rm21_0 l Z a0 hw [] r0 ea e0 e1 e2 h2642 n0  f2644 f2645 f2647) (W := 1) (by decide) (by decide) (by decide) (by decide) rfl (by rw [hml]; rfl) (lenOf own_pd6 rfl) rfl (by show 2 * 0 + _ ≤ _; exact Nat.le_of_eq rfl) (hb hby d16_89) (fun T2653 h2655 v2656 Y2654 q2657 => ?_)
             obtain ⟨rfl, rfl⟩ := q2657
             show own_Ends _ _ _ _ (T2653.setTop (mkF m 92 #[rv r0, iv 3, .val .null, rv b2337, rv b2349, rv b2573, rv nxa, iv 1, .val (.long 0), .second, iv 0, iv c_10, iv j_10] [(.int e0), (.int j_10)]))
             by_cases c92_2658 : j_10 < e0
             ·
              refine o_icmpNo Y2654 hx hby d16_92 rfl (XT.ii_ge_f c92_2658) ?_
              show own_Ends _ _ _ _ (T2653.setTop (mkF m 95 #[rv r0, iv 3, .val .null, rv b2337, rv b2349, rv b2573, rv nxa, iv 1, .val (.long 0), .second, iv 0, iv c_10, iv j_10] []))
              have hlt_10 : i_10 < l0 := by have := c92_2658; rw [own_lt, hj_10, hl0] at this; omega
              obtain ⟨kk_10, rfl⟩ : ∃ q, k_10 = q + 1 := ⟨k_10 - 1, by omega⟩
              obtain ⟨elt_10, ok_10, hok_10, hR2_10⟩ := own_i1_inv hR_10
              refine o_iload Y2654 hx hby d16_95 rfl ?_
              refine o_aloadN Y2654 hx hby d16_97 rfl rfl ?_
              refine o_iload Y2654 hx hby d16_98 rfl ?_
              refine own_callV Y2654 hx hZ (y := (⟨"kombos/graph/Graph", "target", "(I)I"⟩ : MethodName)) (z := (⟨"kombos/graph/Graph", "target", "(I)I"⟩ : MethodName)) hown (own_w hw 278 rfl) (own_w hw 279 rfl) (notFace_of_selects (args := #[]) (mvT hZ (own_w hw 281 rfl))) (own_w hw 281 rfl) (own_w hw 280 rfl) (own_w hw 113 rfl) (own_w hw 282 rfl) (by decide) (a := r0) f2644 (argsL := [(.int j_10)]) (rest := [(.int c_10)]) (own_rm35 l Z a0 hw [] r0 j_10 ga GG i_10 h2642 n0  f2644 f2646 f2648 hj_10 elt_10) (W := 1) (by decide) (by decide) (by decide) (by decide) rfl (by rw [hml]; rfl) (lenOf own_pd6 rfl) rfl (by show 2 * 0 + _ ≤ _; exact Nat.le_of_eq rfl) (hb hby d16_100) (fun T2659 h2661 v2662 Y2660 q2663 => ?_)
              obtain ⟨rfl, rfl⟩ := q2663
              show own_Ends _ _ _ _ (T2659.setTop (mkF m 103 #[rv r0, iv 3, .val .null, rv b2337, rv b2349, rv b2573, rv nxa, iv 1, .val (.long 0), .second, iv 0, iv c_10, iv j_10] [(.int (own_g GG i_10)), (.int c_10)]))
              refine o_iload Y2660 hx hby d16_103 rfl ?_
              refine o_aload Y2660 hx hby d16_105 rfl rfl ?_
              refine o_aload Y2660 hx hby d16_107 rfl rfl ?_
              refine o_aload Y2660 hx hby d16_109 rfl rfl ?_
              refine own_callS Y2660 hx hZ (y := (⟨"kombos/query/SimpleGraph", "note", "(II[I[I[I)I"⟩ : MethodName)) hown (own_w hw 283 rfl) (own_w hw 284 rfl) (own_w hw 148 rfl) (own_w hw 285 rfl) (by decide) (argsL := [(.int (own_g GG i_10)), (.int 0), (.ref b2349), (.ref b2573), (.ref nxa)]) (rest := [(.int c_10)]) (own_rm36_1 l Z a0 hw [] (own_g GG i_10) (0 : Int32) b2349 b2573 nxa sv_10 xv_10 bv_10 h2642 n0  f2650 f2651 f2652 ok_10 hok_10 g2360 g2584 g2607 ne2583 ne2605 ne2606) (W := 1) (by decide) (by decide) (by decide) (by decide) rfl (by rw [hml]; rfl) (lenOf own_pd13 rfl) rfl (by show 2 * 0 + _ ≤ _; exact Nat.le_of_eq rfl) (hb hby d16_111) (fun T2664 h2666 v2667 Y2665 q2668 => ?_)
              obtain ⟨rfl, K2669, A2670, A2671, A2672⟩ := q2668
              show own_Ends _ _ _ _ (T2664.setTop (mkF m 114 #[rv r0, iv 3, .val .null, rv b2337, rv b2349, rv b2573, rv nxa, iv 1, .val (.long 0), .second, iv 0, iv c_10, iv j_10] [(.int (own_ni sv_10 (own_g GG i_10) (0 : Int32))), (.int c_10)]))
              refine o_iadd Y2665 hx hby d16_114 rfl rfl ?_
              refine o_istore Y2665 hx hby d16_115 rfl (l' := #[rv r0, iv 3, .val .null, rv b2337, rv b2349, rv b2573, rv nxa, iv 1, .val (.long 0), .second, iv 0, iv (c_10 + (own_ni sv_10 (own_g GG i_10) (0 : Int32))), iv j_10]) rfl ?_
              refine o_iinc Y2665 hx hby d16_117 rfl (l' := #[rv r0, iv 3, .val .null, rv b2337, rv b2349, rv b2573, rv nxa, iv 1, .val (.long 0), .second, iv 0, iv (c_10 + (own_ni sv_10 (own_g GG i_10) (0 : Int32))), iv (j_10 + (1 : Int32))]) rfl ?_
              refine o_goto Y2665 hx hby (pc' := 84) d16_120 (by decide) (by decide) ?_
              have z2673 : n0 ≤ h2666.size := Nat.le_trans z2643 K2669.1
              have f2674 := f2644.keep K2669
              have f2675 := f2645.keep K2669 (ninS ne2352 (ninS ne2576 (ninS ne2598 nin0)))
              have f2676 := f2646.keep K2669 (ninS ne2352 (ninS ne2576 (ninS ne2598 nin0)))
              have f2677 := f2647.keep K2669 (ninS ne2356 (ninS ne2578 (ninS ne2600 nin0)))
              have f2678 := f2648.keep K2669 (ninS ne2358 (ninS ne2580 (ninS ne2602 nin0)))
              have f2679 := f2649.keep K2669 (ninS ne2359 (ninS ne2581 (ninS ne2603 nin0)))
              exact ih_10 kk_10 (by omega) T2664 h2666 (i_10 + 1) ((j_10 + (1 : Int32))) ((c_10 + (own_ni sv_10 (own_g GG i_10) (0 : Int32)))) ((own_ns sv_10 (own_g GG i_10) (0 : Int32))) ((own_nx sv_10 xv_10 (own_g GG i_10) (0 : Int32))) ((own_nb sv_10 xv_10 bv_10 (own_g GG i_10) (0 : Int32))) Y2665 z2673 f2674 f2675 f2676 f2677 f2678 f2679 A2670 A2671 A2672 (own_inc hj_10 (by omega)) (by omega) hR2_10
             ·
              refine o_icmpYes Y2654 hx hby (pc' := 123) d16_92 rfl (XT.ii_ge_t c92_2658) (by decide) (by decide) ?_
              show own_Ends _ _ _ _ (T2653.setTop (mkF m 123 #[rv r0, iv 3, .val .null, rv b2337, rv b2349, rv b2573, rv nxa, iv 1, .val (.long 0), .second, iv 0, iv c_10, iv j_10] []))
              have hk0_10 : k_10 = 0 := by have := c92_2658; rw [own_lt, hj_10, hl0] at this; omega
              subst hk0_10
              have he_10 : sn11 = sv_10 ∧ xn1 = xv_10 ∧ bn1 = bv_10 ∧ n10 = c_10 := by have q := hR_10; simp only [own_i1, Option.some.injEq, Prod.mk.injEq] at q; simp [q]
              obtain ⟨rfl, rfl, rfl, rfl⟩ := he_10
              show own_Ends _ _ _ _ (T2653.setTop (mkF m 123 #[rv r0, iv 3, .val .null, rv b2337, rv b2349, rv b2573, rv nxa, iv 1, .val (.long 0), .second, iv 0, iv n10, iv j_10] []))
              refine o_aloadN Y2654 hx hby d16_123 rfl rfl ?_
              refine o_ifnullYes Y2654 hx hby (pc' := 174) d16_124 rfl (by decide) (by decide) ?_
              refine o_lload Y2654 hx hby d16_174 rfl ?_
              refine o_iload Y2654 hx hby d16_176 rfl ?_
              refine o_i2l Y2654 hx hby d16_178 rfl rfl ?_
              refine o_ladd Y2654 hx hby d16_179 rfl rfl ?_
              refine own_st (fun t_ => XS.lstore (own_here Y2654) hx rfl (hb hby d16_180) rfl (l' := #[rv r0, iv 3, .val .null, rv b2337, rv b2349, rv b2573, rv nxa, iv 1, .val (.long ((0 : Int64) + (n10.toInt64))), .second, iv 0, iv n10, iv j_10]) rfl) ?_
              show own_Ends _ _ _ _ (T2653.setTop (mkF m 182 #[rv r0, iv 3, .val .null, rv b2337, rv b2349, rv b2573, rv nxa, iv 1, .val (.long ((0 : Int64) + (n10.toInt64))), .second, iv 0, iv n10, iv j_10] []))
              refine o_aloadN Y2654 hx hby d16_182 rfl rfl ?_
              refine o_iload Y2654 hx hby d16_183 rfl ?_
              refine o_iconst Y2654 hx hby d16_185 (x := 1) rfl ?_
              refine o_iadd Y2654 hx hby d16_186 rfl (z := 1) rfl ?_
              refine o_lload Y2654 hx hby d16_187 rfl ?_
              refine own_ldcJ Y2654 hx hZ hown (own_w hw 175 rfl) rfl (hb hby d16_189) ?_
              show own_Ends _ _ _ _ (T2653.setTop (mkF m 192 #[rv r0, iv 3, .val .null, rv b2337, rv b2349, rv b2573, rv nxa, iv 1, .val (.long ((0 : Int64) + (n10.toInt64))), .second, iv 0, iv n10, iv j_10] [(.long 2147483647), (.long ((0 : Int64) + (n10.toInt64))), (.int 1), (.ref b2337)]))
              refine own_callS Y2654 hx hZ (y := (⟨"java/lang/Math", "min", "(JJ)J"⟩ : MethodName)) hown (own_w hw 176 rfl) (own_w hw 177 rfl) (own_w hw 178 rfl) (own_w hw 179 rfl) (by decide) (argsL := [(.long ((0 : Int64) + (n10.toInt64))), (.long 2147483647)]) (rest := [(.int 1), (.ref b2337)]) (own_rm22 l Z a0 hw [] ((0 : Int64) + (n10.toInt64)) (2147483647 : Int64)  h2642 n0  ) (W := 2) (by decide) (by decide) (by decide) (by decide) rfl (by rw [hml]; rfl) (lenOf own_pd14 rfl) rfl (by show 2 * 0 + _ ≤ _; exact Nat.le_of_eq rfl) (hb hby d16_192) (fun T2680 h2682 v2683 Y2681 q2684 => ?_)
              obtain ⟨rfl, rfl⟩ := q2684
              show own_Ends _ _ _ _ (T2680.setTop (mkF m 195 #[rv r0, iv 3, .val .null, rv b2337, rv b2349, rv b2573, rv nxa, iv 1, .val (.long ((0 : Int64) + (n10.toInt64))), .second, iv 0, iv n10, iv j_10] [(.long (own_minL ((0 : Int64) + (n10.toInt64)) (2147483647 : Int64))), (.int 1), (.ref b2337)]))
              refine o_l2i Y2681 hx hby d16_195 rfl rfl ?_
              show own_Ends _ _ _ _ (T2680.setTop (mkF m 196 #[rv r0, iv 3, .val .null, rv b2337, rv b2349, rv b2573, rv nxa, iv 1, .val (.long ((0 : Int64) + (n10.toInt64))), .second, iv 0, iv n10, iv j_10] [(.int ((own_minL ((0 : Int64) + (n10.toInt64)) (2147483647 : Int64)).toInt32)), (.int 1), (.ref b2337)]))
              rw [hu10]
              show own_Ends _ _ _ _ (T2680.setTop (mkF m 196 #[rv r0, iv 3, .val .null, rv b2337, rv b2349, rv b2573, rv nxa, iv 1, .val (.long ((0 : Int64) + (n10.toInt64))), .second, iv 0, iv n10, iv j_10] [(.int u10), (.int 1), (.ref b2337)]))
              refine p_stI Y2681 hx hZ f2649 g2343 (i := 1) (by decide) (by decide) (Nat.le_of_ble_eq_true rfl) hby rfl d16_196 (fun T2685 h2687 Y2686 W2688 A2689 => ?_)
              replace A2689 : own_A Z h2687 b2337 .int [(.int 0), (.int u10), (.int u01), (.int u02)] := A2689
              refine o_iinc Y2686 hx hby d16_197 rfl (l' := #[rv r0, iv 3, .val .null, rv b2337, rv b2349, rv b2573, rv nxa, iv 1, .val (.long ((0 : Int64) + (n10.toInt64))), .second, iv 1, iv n10, iv j_10]) rfl ?_
              refine o_goto Y2686 hx hby (pc' := 60) d16_200 (by decide) (by decide) ?_
              refine o_iload Y2686 hx hby d16_60 rfl ?_
              refine o_iloadN Y2686 hx hby d16_62 rfl ?_
              refine o_icmpNo Y2686 hx hby d16_63 rfl (XT.ii_ge_f (by decide)) ?_
              refine o_aload Y2686 hx hby d16_66 rfl rfl ?_
              refine o_iload Y2686 hx hby d16_68 rfl ?_
              refine o_iload Y2686 hx hby d16_70 rfl ?_
              have f2690 := f2650.other W2688 (Ne.symm ne2359)
              refine p_stI Y2686 hx hZ f2690 g2360 (i := 1) (by decide) (by decide) (own_mlen (by rw [ls11]; decide)) hby rfl d16_72 (fun T2691 h2693 Y2692 W2694 A2695 => ?_)
              show own_Ends _ _ _ _ (T2691.setTop (mkF m 73 #[rv r0, iv 3, .val .null, rv b2337, rv b2349, rv b2573, rv nxa, iv 1, .val (.long ((0 : Int64) + (n10.toInt64))), .second, iv 1, iv n10, iv j_10] []))
              have A2696 : own_A Z h2693 b2349 .int ((sn11.set 1 (1 : Int32)).map Value.int) := by have q := A2695; simpa only [List.map_set] using q
              refine o_iconst Y2692 hx hby d16_73 (x := 0) rfl ?_
              refine o_istore Y2692 hx hby d16_74 rfl (l' := #[rv r0, iv 3, .val .null, rv b2337, rv b2349, rv b2573, rv nxa, iv 1, .val (.long ((0 : Int64) + (n10.toInt64))), .second, iv 1, iv 0, iv j_10]) rfl ?_
              refine o_aloadN Y2692 hx hby d16_76 rfl rfl ?_
              refine o_iload Y2692 hx hby d16_77 rfl ?_
              have f2697 := f2644.wr W2688
              have f2698 := f2697.wr W2694
              have f2699 := f2645.other W2688 (Or.inl ne2339)
              have f2700 := f2699.other W2694 (Or.inl ne2352)
              have f2701 := f2647.other W2688 ne2341
              have f2702 := f2701.other W2694 ne2356
              refine own_callV Y2692 hx hZ (y := (⟨"kombos/graph/Graph", "firstEdge", "(I)I"⟩ : MethodName)) (z := (⟨"kombos/graph/Graph", "firstEdge", "(I)I"⟩ : MethodName)) hown (own_w hw 165 rfl) (own_w hw 166 rfl) (notFace_of_selects (args := #[]) (mvT hZ (own_w hw 168 rfl))) (own_w hw 168 rfl) (own_w hw 167 rfl) (own_w hw 113 rfl) (own_w hw 169 rfl) (by decide) (a := r0) f2698 (argsL := [(.int 1)]) (rest := []) (own_rm20_1 l Z a0 hw [] r0 ea e0 e1 e2 h2693 n0  f2698 f2700 f2702) (W := 0) (by decide) (by decide) (by decide) (by decide) rfl (by rw [hml]; rfl) (lenOf own_pd6 rfl) rfl (by show 2 * 0 + _ ≤ _; exact Nat.le_of_eq rfl) (hb hby d16_79) (fun T2703 h2705 v2706 Y2704 q2707 => ?_)
              obtain ⟨rfl, rfl⟩ := q2707
              show own_Ends _ _ _ _ (T2703.setTop (mkF m 82 #[rv r0, iv 3, .val .null, rv b2337, rv b2349, rv b2573, rv nxa, iv 1, .val (.long ((0 : Int64) + (n10.toInt64))), .second, iv 1, iv 0, iv j_10] [(.int e0)]))
              refine o_istore Y2704 hx hby d16_82 rfl (l' := #[rv r0, iv 3, .val .null, rv b2337, rv b2349, rv b2573, rv nxa, iv 1, .val (.long ((0 : Int64) + (n10.toInt64))), .second, iv 1, iv 0, iv e0]) rfl ?_
              show own_Ends _ _ _ _ (T2703.setTop (mkF m 84 #[rv r0, iv 3, .val .null, rv b2337, rv b2349, rv b2573, rv nxa, iv 1, .val (.long ((0 : Int64) + (n10.toInt64))), .second, iv 1, iv 0, iv e0] []))
              have hL2708 : ∀ (k_11 : Nat) (T2709 : State) (h2711 : Heap) (i_11 : Nat) (j_11 c_11 : Int32) (sv_11 xv_11 bv_11 : List Int32) (Y2710 : own_S p l e ({ frames := 2, cells := 7, slots := 31, locals := 78 } : Room) s m #[(.ref r0)] below meth c n0 T2709 h2711 4 16) (z2712 : n0 ≤ h2711.size) (f2713 : Exa Z h2711 r0 "kombos/graph/Graph") (f2714 : Fld Z h2711 r0 "kombos/graph/Graph" "edgeStart" "[I" (.ref ea)) (f2715 : Fld Z h2711 r0 "kombos/graph/Graph" "edgeTarget" "[I" (.ref ga)) (f2716 : own_A Z h2711 ea .int [(.int 0), (.int e0), (.int e1), (.int e2)]) (f2717 : own_A Z h2711 ga .int (GG.map Value.int)) (f2718 : own_A Z h2711 b2337 .int [(.int 0), (.int u10), (.int u01), (.int u02)]) (f2719 : own_A Z h2711 b2349 .int (sv_11.map Value.int)) (f2720 : own_A Z h2711 b2573 .int (bv_11.map Value.int)) (f2721 : own_A Z h2711 nxa .int (xv_11.map Value.int)) (hj_11 : j_11.toInt = (i_11 : Int)) (hik_11 : i_11 + k_11 = l1) (hR_11 : own_i1 GG (1 : Int32) k_11 i_11 sv_11 xv_11 bv_11 c_11 = some (sn12, xn2, bn2, n11)), own_Ends p.tables e below (own_P s n0 (own_Q_own_rm16 Z u10 u11 u12 bn3 mm2 h0 n0) ({ frames := 2, cells := 7, slots := 31, locals := 78 } : Room).cells ({ frames := 2, cells := 7, slots := 31, locals := 78 } : Room).slots) (T2709.setTop (mkF m 84 #[rv r0, iv 3, .val .null, rv b2337, rv b2349, rv b2573, rv nxa, iv 1, .val (.long ((0 : Int64) + (n10.toInt64))), .second, iv 1, iv c_11, iv j_11] [])) := by
               intro k_11
               induction k_11 using Nat.strongRecOn with
               | _ k_11 ih_11 =>
                intro T2709 h2711 i_11 j_11 c_11 sv_11 xv_11 bv_11 Y2710 z2712 f2713 f2714 f2715 f2716 f2717 f2718 f2719 f2720 f2721 hj_11 hik_11 hR_11
                obtain ⟨hj0_11, hj1_11⟩ := own_nat hj_11
                refine o_iload Y2710 hx hby d16_84 rfl ?_
                refine o_aloadN Y2710 hx hby d16_86 rfl rfl ?_
                refine o_iload Y2710 hx hby d16_87 rfl ?_
                refine own_callV Y2710 hx hZ (y := (⟨"kombos/graph/Graph", "endEdge", "(I)I"⟩ : MethodName)) (z := (⟨"kombos/graph/Graph", "endEdge", "(I)I"⟩ : MethodName)) hown (own_w hw 170 rfl) (own_w hw 171 rfl) (notFace_of_selects (args := #[]) (mvT hZ (own_w hw 173 rfl))) (own_w hw 173 rfl) (own_w hw 172 rfl) (own_w hw 113 rfl) (own_w hw 174 rfl) (by decide) (a := r0) f2713 (argsL := [(.int 1)]) (rest := [(.int j_11)]) (own_rm21_1 l Z a0 hw [] r0 ea e0 e1 e2 h2711 n0  f2713 f2714 f2716) (W := 1) (by decide) (by decide) (by decide) (by decide) rfl (by rw [hml]; rfl) (lenOf own_pd6 rfl) rfl (by show 2 * 0 + _ ≤ _; exact Nat.le_of_eq rfl) (hb hby d16_89) (fun T2722 h2724 v2725 Y2723 q2726 => ?_)
                obtain ⟨rfl, rfl⟩ := q2726
                show own_Ends _ _ _ _ (T2722.setTop (mkF m 92 #[rv r0, iv 3, .val .null, rv b2337, rv b2349, rv b2573, rv nxa, iv 1, .val (.long ((0 : Int64) + (n10.toInt64))), .second, iv 1, iv c_11, iv j_11] [(.int e1), (.int j_11)]))
                by_cases c92_2727 : j_11 < e1
                ·
                 refine o_icmpNo Y2723 hx hby d16_92 rfl (XT.ii_ge_f c92_2727) ?_
                 show own_Ends _ _ _ _ (T2722.setTop (mkF m 95 #[rv r0, iv 3, .val .null, rv b2337, rv b2349, rv b2573, rv nxa, iv 1, .val (.long ((0 : Int64) + (n10.toInt64))), .second, iv 1, iv c_11, iv j_11] []))
                 have hlt_11 : i_11 < l1 := by have := c92_2727; rw [own_lt, hj_11, hl1] at this; omega
                 obtain ⟨kk_11, rfl⟩ : ∃ q, k_11 = q + 1 := ⟨k_11 - 1, by omega⟩
                 obtain ⟨elt_11, ok_11, hok_11, hR2_11⟩ := own_i1_inv hR_11
                 refine o_iload Y2723 hx hby d16_95 rfl ?_
                 refine o_aloadN Y2723 hx hby d16_97 rfl rfl ?_
                 refine o_iload Y2723 hx hby d16_98 rfl ?_
                 refine own_callV Y2723 hx hZ (y := (⟨"kombos/graph/Graph", "target", "(I)I"⟩ : MethodName)) (z := (⟨"kombos/graph/Graph", "target", "(I)I"⟩ : MethodName)) hown (own_w hw 278 rfl) (own_w hw 279 rfl) (notFace_of_selects (args := #[]) (mvT hZ (own_w hw 281 rfl))) (own_w hw 281 rfl) (own_w hw 280 rfl) (own_w hw 113 rfl) (own_w hw 282 rfl) (by decide) (a := r0) f2713 (argsL := [(.int j_11)]) (rest := [(.int c_11)]) (own_rm35 l Z a0 hw [] r0 j_11 ga GG i_11 h2711 n0  f2713 f2715 f2717 hj_11 elt_11) (W := 1) (by decide) (by decide) (by decide) (by decide) rfl (by rw [hml]; rfl) (lenOf own_pd6 rfl) rfl (by show 2 * 0 + _ ≤ _; exact Nat.le_of_eq rfl) (hb hby d16_100) (fun T2728 h2730 v2731 Y2729 q2732 => ?_)
                 obtain ⟨rfl, rfl⟩ := q2732
                 show own_Ends _ _ _ _ (T2728.setTop (mkF m 103 #[rv r0, iv 3, .val .null, rv b2337, rv b2349, rv b2573, rv nxa, iv 1, .val (.long ((0 : Int64) + (n10.toInt64))), .second, iv 1, iv c_11, iv j_11] [(.int (own_g GG i_11)), (.int c_11)]))
                 refine o_iload Y2729 hx hby d16_103 rfl ?_
                 refine o_aload Y2729 hx hby d16_105 rfl rfl ?_
                 refine o_aload Y2729 hx hby d16_107 rfl rfl ?_
                 refine o_aload Y2729 hx hby d16_109 rfl rfl ?_
                 refine own_callS Y2729 hx hZ (y := (⟨"kombos/query/SimpleGraph", "note", "(II[I[I[I)I"⟩ : MethodName)) hown (own_w hw 283 rfl) (own_w hw 284 rfl) (own_w hw 148 rfl) (own_w hw 285 rfl) (by decide) (argsL := [(.int (own_g GG i_11)), (.int 1), (.ref b2349), (.ref b2573), (.ref nxa)]) (rest := [(.int c_11)]) (own_rm36_1 l Z a0 hw [] (own_g GG i_11) (1 : Int32) b2349 b2573 nxa sv_11 xv_11 bv_11 h2711 n0  f2719 f2720 f2721 ok_11 hok_11 g2360 g2584 g2607 ne2583 ne2605 ne2606) (W := 1) (by decide) (by decide) (by decide) (by decide) rfl (by rw [hml]; rfl) (lenOf own_pd13 rfl) rfl (by show 2 * 0 + _ ≤ _; exact Nat.le_of_eq rfl) (hb hby d16_111) (fun T2733 h2735 v2736 Y2734 q2737 => ?_)
                 obtain ⟨rfl, K2738, A2739, A2740, A2741⟩ := q2737
                 show own_Ends _ _ _ _ (T2733.setTop (mkF m 114 #[rv r0, iv 3, .val .null, rv b2337, rv b2349, rv b2573, rv nxa, iv 1, .val (.long ((0 : Int64) + (n10.toInt64))), .second, iv 1, iv c_11, iv j_11] [(.int (own_ni sv_11 (own_g GG i_11) (1 : Int32))), (.int c_11)]))
                 refine o_iadd Y2734 hx hby d16_114 rfl rfl ?_
                 refine o_istore Y2734 hx hby d16_115 rfl (l' := #[rv r0, iv 3, .val .null, rv b2337, rv b2349, rv b2573, rv nxa, iv 1, .val (.long ((0 : Int64) + (n10.toInt64))), .second, iv 1, iv (c_11 + (own_ni sv_11 (own_g GG i_11) (1 : Int32))), iv j_11]) rfl ?_
                 refine o_iinc Y2734 hx hby d16_117 rfl (l' := #[rv r0, iv 3, .val .null, rv b2337, rv b2349, rv b2573, rv nxa, iv 1, .val (.long ((0 : Int64) + (n10.toInt64))), .second, iv 1, iv (c_11 + (own_ni sv_11 (own_g GG i_11) (1 : Int32))), iv (j_11 + (1 : Int32))]) rfl ?_
                 refine o_goto Y2734 hx hby (pc' := 84) d16_120 (by decide) (by decide) ?_
                 have z2742 : n0 ≤ h2735.size := Nat.le_trans z2712 K2738.1
                 have f2743 := f2713.keep K2738
                 have f2744 := f2714.keep K2738 (ninS ne2352 (ninS ne2576 (ninS ne2598 nin0)))
                 have f2745 := f2715.keep K2738 (ninS ne2352 (ninS ne2576 (ninS ne2598 nin0)))
                 have f2746 := f2716.keep K2738 (ninS ne2356 (ninS ne2578 (ninS ne2600 nin0)))
                 have f2747 := f2717.keep K2738 (ninS ne2358 (ninS ne2580 (ninS ne2602 nin0)))
                 have f2748 := f2718.keep K2738 (ninS ne2359 (ninS ne2581 (ninS ne2603 nin0)))
                 exact ih_11 kk_11 (by omega) T2733 h2735 (i_11 + 1) ((j_11 + (1 : Int32))) ((c_11 + (own_ni sv_11 (own_g GG i_11) (1 : Int32)))) ((own_ns sv_11 (own_g GG i_11) (1 : Int32))) ((own_nx sv_11 xv_11 (own_g GG i_11) (1 : Int32))) ((own_nb sv_11 xv_11 bv_11 (own_g GG i_11) (1 : Int32))) Y2734 z2742 f2743 f2744 f2745 f2746 f2747 f2748 A2739 A2740 A2741 (own_inc hj_11 (by omega)) (by omega) hR2_11
                ·
                 refine o_icmpYes Y2723 hx hby (pc' := 123) d16_92 rfl (XT.ii_ge_t c92_2727) (by decide) (by decide) ?_
                 show own_Ends _ _ _ _ (T2722.setTop (mkF m 123 #[rv r0, iv 3, .val .null, rv b2337, rv b2349, rv b2573, rv nxa, iv 1, .val (.long ((0 : Int64) + (n10.toInt64))), .second, iv 1, iv c_11, iv j_11] []))
                 have hk0_11 : k_11 = 0 := by have := c92_2727; rw [own_lt, hj_11, hl1] at this; omega
                 subst hk0_11
                 have he_11 : sn12 = sv_11 ∧ xn2 = xv_11 ∧ bn2 = bv_11 ∧ n11 = c_11 := by have q := hR_11; simp only [own_i1, Option.some.injEq, Prod.mk.injEq] at q; simp [q]
                 obtain ⟨rfl, rfl, rfl, rfl⟩ := he_11
                 show own_Ends _ _ _ _ (T2722.setTop (mkF m 123 #[rv r0, iv 3, .val .null, rv b2337, rv b2349, rv b2573, rv nxa, iv 1, .val (.long ((0 : Int64) + (n10.toInt64))), .second, iv 1, iv n11, iv j_11] []))
                 refine o_aloadN Y2723 hx hby d16_123 rfl rfl ?_
                 refine o_ifnullYes Y2723 hx hby (pc' := 174) d16_124 rfl (by decide) (by decide) ?_
                 refine o_lload Y2723 hx hby d16_174 rfl ?_
                 refine o_iload Y2723 hx hby d16_176 rfl ?_
                 refine o_i2l Y2723 hx hby d16_178 rfl rfl ?_
                 refine o_ladd Y2723 hx hby d16_179 rfl rfl ?_
                 refine own_st (fun t_ => XS.lstore (own_here Y2723) hx rfl (hb hby d16_180) rfl (l' := #[rv r0, iv 3, .val .null, rv b2337, rv b2349, rv b2573, rv nxa, iv 1, .val (.long (((0 : Int64) + (n10.toInt64)) + (n11.toInt64))), .second, iv 1, iv n11, iv j_11]) rfl) ?_
                 show own_Ends _ _ _ _ (T2722.setTop (mkF m 182 #[rv r0, iv 3, .val .null, rv b2337, rv b2349, rv b2573, rv nxa, iv 1, .val (.long (((0 : Int64) + (n10.toInt64)) + (n11.toInt64))), .second, iv 1, iv n11, iv j_11] []))
                 refine o_aloadN Y2723 hx hby d16_182 rfl rfl ?_
                 refine o_iload Y2723 hx hby d16_183 rfl ?_
                 refine o_iconst Y2723 hx hby d16_185 (x := 1) rfl ?_
                 refine o_iadd Y2723 hx hby d16_186 rfl (z := 2) rfl ?_
                 refine o_lload Y2723 hx hby d16_187 rfl ?_
                 refine own_ldcJ Y2723 hx hZ hown (own_w hw 175 rfl) rfl (hb hby d16_189) ?_
                 show own_Ends _ _ _ _ (T2722.setTop (mkF m 192 #[rv r0, iv 3, .val .null, rv b2337, rv b2349, rv b2573, rv nxa, iv 1, .val (.long (((0 : Int64) + (n10.toInt64)) + (n11.toInt64))), .second, iv 1, iv n11, iv j_11] [(.long 2147483647), (.long (((0 : Int64) + (n10.toInt64)) + (n11.toInt64))), (.int 2), (.ref b2337)]))
                 refine own_callS Y2723 hx hZ (y := (⟨"java/lang/Math", "min", "(JJ)J"⟩ : MethodName)) hown (own_w hw 176 rfl) (own_w hw 177 rfl) (own_w hw 178 rfl) (own_w hw 179 rfl) (by decide) (argsL := [(.long (((0 : Int64) + (n10.toInt64)) + (n11.toInt64))), (.long 2147483647)]) (rest := [(.int 2), (.ref b2337)]) (own_rm22 l Z a0 hw [] (((0 : Int64) + (n10.toInt64)) + (n11.toInt64)) (2147483647 : Int64)  h2711 n0  ) (W := 2) (by decide) (by decide) (by decide) (by decide) rfl (by rw [hml]; rfl) (lenOf own_pd14 rfl) rfl (by show 2 * 0 + _ ≤ _; exact Nat.le_of_eq rfl) (hb hby d16_192) (fun T2749 h2751 v2752 Y2750 q2753 => ?_)
                 obtain ⟨rfl, rfl⟩ := q2753
                 show own_Ends _ _ _ _ (T2749.setTop (mkF m 195 #[rv r0, iv 3, .val .null, rv b2337, rv b2349, rv b2573, rv nxa, iv 1, .val (.long (((0 : Int64) + (n10.toInt64)) + (n11.toInt64))), .second, iv 1, iv n11, iv j_11] [(.long (own_minL (((0 : Int64) + (n10.toInt64)) + (n11.toInt64)) (2147483647 : Int64))), (.int 2), (.ref b2337)]))
                 refine o_l2i Y2750 hx hby d16_195 rfl rfl ?_
                 show own_Ends _ _ _ _ (T2749.setTop (mkF m 196 #[rv r0, iv 3, .val .null, rv b2337, rv b2349, rv b2573, rv nxa, iv 1, .val (.long (((0 : Int64) + (n10.toInt64)) + (n11.toInt64))), .second, iv 1, iv n11, iv j_11] [(.int ((own_minL (((0 : Int64) + (n10.toInt64)) + (n11.toInt64)) (2147483647 : Int64)).toInt32)), (.int 2), (.ref b2337)]))
                 rw [hu11]
                 show own_Ends _ _ _ _ (T2749.setTop (mkF m 196 #[rv r0, iv 3, .val .null, rv b2337, rv b2349, rv b2573, rv nxa, iv 1, .val (.long (((0 : Int64) + (n10.toInt64)) + (n11.toInt64))), .second, iv 1, iv n11, iv j_11] [(.int u11), (.int 2), (.ref b2337)]))
                 refine p_stI Y2750 hx hZ f2718 g2343 (i := 2) (by decide) (by decide) (Nat.le_of_ble_eq_true rfl) hby rfl d16_196 (fun T2754 h2756 Y2755 W2757 A2758 => ?_)
                 replace A2758 : own_A Z h2756 b2337 .int [(.int 0), (.int u10), (.int u11), (.int u02)] := A2758
                 refine o_iinc Y2755 hx hby d16_197 rfl (l' := #[rv r0, iv 3, .val .null, rv b2337, rv b2349, rv b2573, rv nxa, iv 1, .val (.long (((0 : Int64) + (n10.toInt64)) + (n11.toInt64))), .second, iv 2, iv n11, iv j_11]) rfl ?_
                 refine o_goto Y2755 hx hby (pc' := 60) d16_200 (by decide) (by decide) ?_
                 refine o_iload Y2755 hx hby d16_60 rfl ?_
                 refine o_iloadN Y2755 hx hby d16_62 rfl ?_
                 refine o_icmpNo Y2755 hx hby d16_63 rfl (XT.ii_ge_f (by decide)) ?_
                 refine o_aload Y2755 hx hby d16_66 rfl rfl ?_
                 refine o_iload Y2755 hx hby d16_68 rfl ?_
                 refine o_iload Y2755 hx hby d16_70 rfl ?_
                 have f2759 := f2719.other W2757 (Ne.symm ne2359)
                 refine p_stI Y2755 hx hZ f2759 g2360 (i := 2) (by decide) (by decide) (own_mlen (by rw [ls12]; decide)) hby rfl d16_72 (fun T2760 h2762 Y2761 W2763 A2764 => ?_)
                 show own_Ends _ _ _ _ (T2760.setTop (mkF m 73 #[rv r0, iv 3, .val .null, rv b2337, rv b2349, rv b2573, rv nxa, iv 1, .val (.long (((0 : Int64) + (n10.toInt64)) + (n11.toInt64))), .second, iv 2, iv n11, iv j_11] []))
                 have A2765 : own_A Z h2762 b2349 .int ((sn12.set 2 (2 : Int32)).map Value.int) := by have q := A2764; simpa only [List.map_set] using q
                 refine o_iconst Y2761 hx hby d16_73 (x := 0) rfl ?_
                 refine o_istore Y2761 hx hby d16_74 rfl (l' := #[rv r0, iv 3, .val .null, rv b2337, rv b2349, rv b2573, rv nxa, iv 1, .val (.long (((0 : Int64) + (n10.toInt64)) + (n11.toInt64))), .second, iv 2, iv 0, iv j_11]) rfl ?_
                 refine o_aloadN Y2761 hx hby d16_76 rfl rfl ?_
                 refine o_iload Y2761 hx hby d16_77 rfl ?_
                 have f2766 := f2713.wr W2757
                 have f2767 := f2766.wr W2763
                 have f2768 := f2714.other W2757 (Or.inl ne2339)
                 have f2769 := f2768.other W2763 (Or.inl ne2352)
                 have f2770 := f2716.other W2757 ne2341
                 have f2771 := f2770.other W2763 ne2356
                 refine own_callV Y2761 hx hZ (y := (⟨"kombos/graph/Graph", "firstEdge", "(I)I"⟩ : MethodName)) (z := (⟨"kombos/graph/Graph", "firstEdge", "(I)I"⟩ : MethodName)) hown (own_w hw 165 rfl) (own_w hw 166 rfl) (notFace_of_selects (args := #[]) (mvT hZ (own_w hw 168 rfl))) (own_w hw 168 rfl) (own_w hw 167 rfl) (own_w hw 113 rfl) (own_w hw 169 rfl) (by decide) (a := r0) f2767 (argsL := [(.int 2)]) (rest := []) (own_rm20_2 l Z a0 hw [] r0 ea e0 e1 e2 h2762 n0  f2767 f2769 f2771) (W := 0) (by decide) (by decide) (by decide) (by decide) rfl (by rw [hml]; rfl) (lenOf own_pd6 rfl) rfl (by show 2 * 0 + _ ≤ _; exact Nat.le_of_eq rfl) (hb hby d16_79) (fun T2772 h2774 v2775 Y2773 q2776 => ?_)
                 obtain ⟨rfl, rfl⟩ := q2776
                 show own_Ends _ _ _ _ (T2772.setTop (mkF m 82 #[rv r0, iv 3, .val .null, rv b2337, rv b2349, rv b2573, rv nxa, iv 1, .val (.long (((0 : Int64) + (n10.toInt64)) + (n11.toInt64))), .second, iv 2, iv 0, iv j_11] [(.int e1)]))
                 refine o_istore Y2773 hx hby d16_82 rfl (l' := #[rv r0, iv 3, .val .null, rv b2337, rv b2349, rv b2573, rv nxa, iv 1, .val (.long (((0 : Int64) + (n10.toInt64)) + (n11.toInt64))), .second, iv 2, iv 0, iv e1]) rfl ?_
                 show own_Ends _ _ _ _ (T2772.setTop (mkF m 84 #[rv r0, iv 3, .val .null, rv b2337, rv b2349, rv b2573, rv nxa, iv 1, .val (.long (((0 : Int64) + (n10.toInt64)) + (n11.toInt64))), .second, iv 2, iv 0, iv e1] []))
                 have hL2777 : ∀ (k_12 : Nat) (T2778 : State) (h2780 : Heap) (i_12 : Nat) (j_12 c_12 : Int32) (sv_12 xv_12 bv_12 : List Int32) (Y2779 : own_S p l e ({ frames := 2, cells := 7, slots := 31, locals := 78 } : Room) s m #[(.ref r0)] below meth c n0 T2778 h2780 4 16) (z2781 : n0 ≤ h2780.size) (f2782 : Exa Z h2780 r0 "kombos/graph/Graph") (f2783 : Fld Z h2780 r0 "kombos/graph/Graph" "edgeStart" "[I" (.ref ea)) (f2784 : Fld Z h2780 r0 "kombos/graph/Graph" "edgeTarget" "[I" (.ref ga)) (f2785 : own_A Z h2780 ea .int [(.int 0), (.int e0), (.int e1), (.int e2)]) (f2786 : own_A Z h2780 ga .int (GG.map Value.int)) (f2787 : own_A Z h2780 b2337 .int [(.int 0), (.int u10), (.int u11), (.int u02)]) (f2788 : own_A Z h2780 b2349 .int (sv_12.map Value.int)) (f2789 : own_A Z h2780 b2573 .int (bv_12.map Value.int)) (f2790 : own_A Z h2780 nxa .int (xv_12.map Value.int)) (hj_12 : j_12.toInt = (i_12 : Int)) (hik_12 : i_12 + k_12 = l2) (hR_12 : own_i1 GG (2 : Int32) k_12 i_12 sv_12 xv_12 bv_12 c_12 = some (sn13, xn3, bn3, n12)), own_Ends p.tables e below (own_P s n0 (own_Q_own_rm16 Z u10 u11 u12 bn3 mm2 h0 n0) ({ frames := 2, cells := 7, slots := 31, locals := 78 } : Room).cells ({ frames := 2, cells := 7, slots := 31, locals := 78 } : Room).slots) (T2778.setTop (mkF m 84 #[rv r0, iv 3, .val .null, rv b2337, rv b2349, rv b2573, rv nxa, iv 1, .val (.long (((0 : Int64) + (n10.toInt64)) + (n11.toInt64))), .second, iv 2, iv c_12, iv j_12] [])) := by
                  intro k_12
                  induction k_12 using Nat.strongRecOn with
                  | _ k_12 ih_12 =>
                   intro T2778 h2780 i_12 j_12 c_12 sv_12 xv_12 bv_12 Y2779 z2781 f2782 f2783 f2784 f2785 f2786 f2787 f2788 f2789 f2790 hj_12 hik_12 hR_12
                   obtain ⟨hj0_12, hj1_12⟩ := own_nat hj_12
                   refine o_iload Y2779 hx hby d16_84 rfl ?_
                   refine o_aloadN Y2779 hx hby d16_86 rfl rfl ?_
                   refine o_iload Y2779 hx hby d16_87 rfl ?_
                   refine own_callV Y2779 hx hZ (y := (⟨"kombos/graph/Graph", "endEdge", "(I)I"⟩ : MethodName)) (z := (⟨"kombos/graph/Graph", "endEdge", "(I)I"⟩ : MethodName)) hown (own_w hw 170 rfl) (own_w hw 171 rfl) (notFace_of_selects (args := #[]) (mvT hZ (own_w hw 173 rfl))) (own_w hw 173 rfl) (own_w hw 172 rfl) (own_w hw 113 rfl) (own_w hw 174 rfl) (by decide) (a := r0) f2782 (argsL := [(.int 2)]) (rest := [(.int j_12)]) (own_rm21_2 l Z a0 hw [] r0 ea e0 e1 e2 h2780 n0  f2782 f2783 f2785) (W := 1) (by decide) (by decide) (by decide) (by decide) rfl (by rw [hml]; rfl) (lenOf own_pd6 rfl) rfl (by show 2 * 0 + _ ≤ _; exact Nat.le_of_eq rfl) (hb hby d16_89) (fun T2791 h2793 v2794 Y2792 q2795 => ?_)
                   obtain ⟨rfl, rfl⟩ := q2795
                   show own_Ends _ _ _ _ (T2791.setTop (mkF m 92 #[rv r0, iv 3, .val .null, rv b2337, rv b2349, rv b2573, rv nxa, iv 1, .val (.long (((0 : Int64) + (n10.toInt64)) + (n11.toInt64))), .second, iv 2, iv c_12, iv j_12] [(.int e2), (.int j_12)]))
                   by_cases c92_2796 : j_12 < e2
                   ·
                    refine o_icmpNo Y2792 hx hby d16_92 rfl (XT.ii_ge_f c92_2796) ?_
                    show own_Ends _ _ _ _ (T2791.setTop (mkF m 95 #[rv r0, iv 3, .val .null, rv b2337, rv b2349, rv b2573, rv nxa, iv 1, .val (.long (((0 : Int64) + (n10.toInt64)) + (n11.toInt64))), .second, iv 2, iv c_12, iv j_12] []))
                    have hlt_12 : i_12 < l2 := by have := c92_2796; rw [own_lt, hj_12, hl2] at this; omega
                    obtain ⟨kk_12, rfl⟩ : ∃ q, k_12 = q + 1 := ⟨k_12 - 1, by omega⟩
                    obtain ⟨elt_12, ok_12, hok_12, hR2_12⟩ := own_i1_inv hR_12
                    refine o_iload Y2792 hx hby d16_95 rfl ?_
                    refine o_aloadN Y2792 hx hby d16_97 rfl rfl ?_
                    refine o_iload Y2792 hx hby d16_98 rfl ?_
                    refine own_callV Y2792 hx hZ (y := (⟨"kombos/graph/Graph", "target", "(I)I"⟩ : MethodName)) (z := (⟨"kombos/graph/Graph", "target", "(I)I"⟩ : MethodName)) hown (own_w hw 278 rfl) (own_w hw 279 rfl) (notFace_of_selects (args := #[]) (mvT hZ (own_w hw 281 rfl))) (own_w hw 281 rfl) (own_w hw 280 rfl) (own_w hw 113 rfl) (own_w hw 282 rfl) (by decide) (a := r0) f2782 (argsL := [(.int j_12)]) (rest := [(.int c_12)]) (own_rm35 l Z a0 hw [] r0 j_12 ga GG i_12 h2780 n0  f2782 f2784 f2786 hj_12 elt_12) (W := 1) (by decide) (by decide) (by decide) (by decide) rfl (by rw [hml]; rfl) (lenOf own_pd6 rfl) rfl (by show 2 * 0 + _ ≤ _; exact Nat.le_of_eq rfl) (hb hby d16_100) (fun T2797 h2799 v2800 Y2798 q2801 => ?_)
                    obtain ⟨rfl, rfl⟩ := q2801
                    show own_Ends _ _ _ _ (T2797.setTop (mkF m 103 #[rv r0, iv 3, .val .null, rv b2337, rv b2349, rv b2573, rv nxa, iv 1, .val (.long (((0 : Int64) + (n10.toInt64)) + (n11.toInt64))), .second, iv 2, iv c_12, iv j_12] [(.int (own_g GG i_12)), (.int c_12)]))
                    refine o_iload Y2798 hx hby d16_103 rfl ?_
                    refine o_aload Y2798 hx hby d16_105 rfl rfl ?_
                    refine o_aload Y2798 hx hby d16_107 rfl rfl ?_
                    refine o_aload Y2798 hx hby d16_109 rfl rfl ?_
                    refine own_callS Y2798 hx hZ (y := (⟨"kombos/query/SimpleGraph", "note", "(II[I[I[I)I"⟩ : MethodName)) hown (own_w hw 283 rfl) (own_w hw 284 rfl) (own_w hw 148 rfl) (own_w hw 285 rfl) (by decide) (argsL := [(.int (own_g GG i_12)), (.int 2), (.ref b2349), (.ref b2573), (.ref nxa)]) (rest := [(.int c_12)]) (own_rm36_1 l Z a0 hw [] (own_g GG i_12) (2 : Int32) b2349 b2573 nxa sv_12 xv_12 bv_12 h2780 n0  f2788 f2789 f2790 ok_12 hok_12 g2360 g2584 g2607 ne2583 ne2605 ne2606) (W := 1) (by decide) (by decide) (by decide) (by decide) rfl (by rw [hml]; rfl) (lenOf own_pd13 rfl) rfl (by show 2 * 0 + _ ≤ _; exact Nat.le_of_eq rfl) (hb hby d16_111) (fun T2802 h2804 v2805 Y2803 q2806 => ?_)
                    obtain ⟨rfl, K2807, A2808, A2809, A2810⟩ := q2806
                    show own_Ends _ _ _ _ (T2802.setTop (mkF m 114 #[rv r0, iv 3, .val .null, rv b2337, rv b2349, rv b2573, rv nxa, iv 1, .val (.long (((0 : Int64) + (n10.toInt64)) + (n11.toInt64))), .second, iv 2, iv c_12, iv j_12] [(.int (own_ni sv_12 (own_g GG i_12) (2 : Int32))), (.int c_12)]))
                    refine o_iadd Y2803 hx hby d16_114 rfl rfl ?_
                    refine o_istore Y2803 hx hby d16_115 rfl (l' := #[rv r0, iv 3, .val .null, rv b2337, rv b2349, rv b2573, rv nxa, iv 1, .val (.long (((0 : Int64) + (n10.toInt64)) + (n11.toInt64))), .second, iv 2, iv (c_12 + (own_ni sv_12 (own_g GG i_12) (2 : Int32))), iv j_12]) rfl ?_
                    refine o_iinc Y2803 hx hby d16_117 rfl (l' := #[rv r0, iv 3, .val .null, rv b2337, rv b2349, rv b2573, rv nxa, iv 1, .val (.long (((0 : Int64) + (n10.toInt64)) + (n11.toInt64))), .second, iv 2, iv (c_12 + (own_ni sv_12 (own_g GG i_12) (2 : Int32))), iv (j_12 + (1 : Int32))]) rfl ?_
                    refine o_goto Y2803 hx hby (pc' := 84) d16_120 (by decide) (by decide) ?_
                    have z2811 : n0 ≤ h2804.size := Nat.le_trans z2781 K2807.1
                    have f2812 := f2782.keep K2807
                    have f2813 := f2783.keep K2807 (ninS ne2352 (ninS ne2576 (ninS ne2598 nin0)))
                    have f2814 := f2784.keep K2807 (ninS ne2352 (ninS ne2576 (ninS ne2598 nin0)))
                    have f2815 := f2785.keep K2807 (ninS ne2356 (ninS ne2578 (ninS ne2600 nin0)))
                    have f2816 := f2786.keep K2807 (ninS ne2358 (ninS ne2580 (ninS ne2602 nin0)))
                    have f2817 := f2787.keep K2807 (ninS ne2359 (ninS ne2581 (ninS ne2603 nin0)))
                    exact ih_12 kk_12 (by omega) T2802 h2804 (i_12 + 1) ((j_12 + (1 : Int32))) ((c_12 + (own_ni sv_12 (own_g GG i_12) (2 : Int32)))) ((own_ns sv_12 (own_g GG i_12) (2 : Int32))) ((own_nx sv_12 xv_12 (own_g GG i_12) (2 : Int32))) ((own_nb sv_12 xv_12 bv_12 (own_g GG i_12) (2 : Int32))) Y2803 z2811 f2812 f2813 f2814 f2815 f2816 f2817 A2808 A2809 A2810 (own_inc hj_12 (by omega)) (by omega) hR2_12
                   ·
                    refine o_icmpYes Y2792 hx hby (pc' := 123) d16_92 rfl (XT.ii_ge_t c92_2796) (by decide) (by decide) ?_
                    show own_Ends _ _ _ _ (T2791.setTop (mkF m 123 #[rv r0, iv 3, .val .null, rv b2337, rv b2349, rv b2573, rv nxa, iv 1, .val (.long (((0 : Int64) + (n10.toInt64)) + (n11.toInt64))), .second, iv 2, iv c_12, iv j_12] []))
                    have hk0_12 : k_12 = 0 := by have := c92_2796; rw [own_lt, hj_12, hl2] at this; omega
                    subst hk0_12
                    have he_12 : sn13 = sv_12 ∧ xn3 = xv_12 ∧ bn3 = bv_12 ∧ n12 = c_12 := by have q := hR_12; simp only [own_i1, Option.some.injEq, Prod.mk.injEq] at q; simp [q]
                    obtain ⟨rfl, rfl, rfl, rfl⟩ := he_12
                    show own_Ends _ _ _ _ (T2791.setTop (mkF m 123 #[rv r0, iv 3, .val .null, rv b2337, rv b2349, rv b2573, rv nxa, iv 1, .val (.long (((0 : Int64) + (n10.toInt64)) + (n11.toInt64))), .second, iv 2, iv n12, iv j_12] []))
                    refine o_aloadN Y2792 hx hby d16_123 rfl rfl ?_
                    refine o_ifnullYes Y2792 hx hby (pc' := 174) d16_124 rfl (by decide) (by decide) ?_
                    refine o_lload Y2792 hx hby d16_174 rfl ?_
                    refine o_iload Y2792 hx hby d16_176 rfl ?_
                    refine o_i2l Y2792 hx hby d16_178 rfl rfl ?_
                    refine o_ladd Y2792 hx hby d16_179 rfl rfl ?_
                    refine own_st (fun t_ => XS.lstore (own_here Y2792) hx rfl (hb hby d16_180) rfl (l' := #[rv r0, iv 3, .val .null, rv b2337, rv b2349, rv b2573, rv nxa, iv 1, .val (.long ((((0 : Int64) + (n10.toInt64)) + (n11.toInt64)) + (n12.toInt64))), .second, iv 2, iv n12, iv j_12]) rfl) ?_
                    show own_Ends _ _ _ _ (T2791.setTop (mkF m 182 #[rv r0, iv 3, .val .null, rv b2337, rv b2349, rv b2573, rv nxa, iv 1, .val (.long ((((0 : Int64) + (n10.toInt64)) + (n11.toInt64)) + (n12.toInt64))), .second, iv 2, iv n12, iv j_12] []))
                    refine o_aloadN Y2792 hx hby d16_182 rfl rfl ?_
                    refine o_iload Y2792 hx hby d16_183 rfl ?_
                    refine o_iconst Y2792 hx hby d16_185 (x := 1) rfl ?_
                    refine o_iadd Y2792 hx hby d16_186 rfl (z := 3) rfl ?_
                    refine o_lload Y2792 hx hby d16_187 rfl ?_
                    refine own_ldcJ Y2792 hx hZ hown (own_w hw 175 rfl) rfl (hb hby d16_189) ?_
                    show own_Ends _ _ _ _ (T2791.setTop (mkF m 192 #[rv r0, iv 3, .val .null, rv b2337, rv b2349, rv b2573, rv nxa, iv 1, .val (.long ((((0 : Int64) + (n10.toInt64)) + (n11.toInt64)) + (n12.toInt64))), .second, iv 2, iv n12, iv j_12] [(.long 2147483647), (.long ((((0 : Int64) + (n10.toInt64)) + (n11.toInt64)) + (n12.toInt64))), (.int 3), (.ref b2337)]))
                    refine own_callS Y2792 hx hZ (y := (⟨"java/lang/Math", "min", "(JJ)J"⟩ : MethodName)) hown (own_w hw 176 rfl) (own_w hw 177 rfl) (own_w hw 178 rfl) (own_w hw 179 rfl) (by decide) (argsL := [(.long ((((0 : Int64) + (n10.toInt64)) + (n11.toInt64)) + (n12.toInt64))), (.long 2147483647)]) (rest := [(.int 3), (.ref b2337)]) (own_rm22 l Z a0 hw [] ((((0 : Int64) + (n10.toInt64)) + (n11.toInt64)) + (n12.toInt64)) (2147483647 : Int64)  h2780 n0  ) (W := 2) (by decide) (by decide) (by decide) (by decide) rfl (by rw [hml]; rfl) (lenOf own_pd14 rfl) rfl (by show 2 * 0 + _ ≤ _; exact Nat.le_of_eq rfl) (hb hby d16_192) (fun T2818 h2820 v2821 Y2819 q2822 => ?_)
                    obtain ⟨rfl, rfl⟩ := q2822
                    show own_Ends _ _ _ _ (T2818.setTop (mkF m 195 #[rv r0, iv 3, .val .null, rv b2337, rv b2349, rv b2573, rv nxa, iv 1, .val (.long ((((0 : Int64) + (n10.toInt64)) + (n11.toInt64)) + (n12.toInt64))), .second, iv 2, iv n12, iv j_12] [(.long (own_minL ((((0 : Int64) + (n10.toInt64)) + (n11.toInt64)) + (n12.toInt64)) (2147483647 : Int64))), (.int 3), (.ref b2337)]))
                    refine o_l2i Y2819 hx hby d16_195 rfl rfl ?_
                    show own_Ends _ _ _ _ (T2818.setTop (mkF m 196 #[rv r0, iv 3, .val .null, rv b2337, rv b2349, rv b2573, rv nxa, iv 1, .val (.long ((((0 : Int64) + (n10.toInt64)) + (n11.toInt64)) + (n12.toInt64))), .second, iv 2, iv n12, iv j_12] [(.int ((own_minL ((((0 : Int64) + (n10.toInt64)) + (n11.toInt64)) + (n12.toInt64)) (2147483647 : Int64)).toInt32)), (.int 3), (.ref b2337)]))
                    rw [hu12]
                    show own_Ends _ _ _ _ (T2818.setTop (mkF m 196 #[rv r0, iv 3, .val .null, rv b2337, rv b2349, rv b2573, rv nxa, iv 1, .val (.long ((((0 : Int64) + (n10.toInt64)) + (n11.toInt64)) + (n12.toInt64))), .second, iv 2, iv n12, iv j_12] [(.int u12), (.int 3), (.ref b2337)]))
                    refine p_stI Y2819 hx hZ f2787 g2343 (i := 3) (by decide) (by decide) (Nat.le_of_ble_eq_true rfl) hby rfl d16_196 (fun T2823 h2825 Y2824 W2826 A2827 => ?_)
                    replace A2827 : own_A Z h2825 b2337 .int [(.int 0), (.int u10), (.int u11), (.int u12)] := A2827
                    refine o_iinc Y2824 hx hby d16_197 rfl (l' := #[rv r0, iv 3, .val .null, rv b2337, rv b2349, rv b2573, rv nxa, iv 1, .val (.long ((((0 : Int64) + (n10.toInt64)) + (n11.toInt64)) + (n12.toInt64))), .second, iv 3, iv n12, iv j_12]) rfl ?_
                    refine o_goto Y2824 hx hby (pc' := 60) d16_200 (by decide) (by decide) ?_
                    refine o_iload Y2824 hx hby d16_60 rfl ?_
                    refine o_iloadN Y2824 hx hby d16_62 rfl ?_
                    refine o_icmpYes Y2824 hx hby (pc' := 203) d16_63 rfl (XT.ii_ge_t (by decide)) (by decide) (by decide) ?_
                    refine o_lload Y2824 hx hby d16_203 rfl ?_
                    refine own_ldcJ Y2824 hx hZ hown (own_w hw 180 rfl) rfl (hb hby d16_205) ?_
                    show own_Ends _ _ _ _ (T2823.setTop (mkF m 208 #[rv r0, iv 3, .val .null, rv b2337, rv b2349, rv b2573, rv nxa, iv 1, .val (.long ((((0 : Int64) + (n10.toInt64)) + (n11.toInt64)) + (n12.toInt64))), .second, iv 3, iv n12, iv j_12] [(.long 2147483639), (.long ((((0 : Int64) + (n10.toInt64)) + (n11.toInt64)) + (n12.toInt64)))]))
                    refine own_st (fun t_ => XS.lcmp (own_here Y2824) hx rfl (hb hby d16_208) rfl) ?_
                    show own_Ends _ _ _ _ (T2823.setTop (mkF m 209 #[rv r0, iv 3, .val .null, rv b2337, rv b2349, rv b2573, rv nxa, iv 1, .val (.long ((((0 : Int64) + (n10.toInt64)) + (n11.toInt64)) + (n12.toInt64))), .second, iv 3, iv n12, iv j_12] [(.int (lcmpW ((((0 : Int64) + (n10.toInt64)) + (n11.toInt64)) + (n12.toInt64)) (2147483639 : Int64)))]))
                    refine o_ifYes Y2824 hx hby (pc' := 222) d16_209 rfl (XT.ll_le_t (by rw [Int64.lt_iff_toInt_lt]; have q := hen1; have e : (2147483639 : Int64).toInt = 2147483639 := rfl; omega)) (by decide) (by decide) ?_
                    refine o_aload Y2824 hx hby d16_222 rfl rfl ?_
                    refine own_st (fun t_ => XS.ifnonnullYes (own_here Y2824) hx rfl (pc0 := 224) (pc' := 241) rfl (hb hby d16_224) rfl (by decide) (by decide)) ?_
                    show own_Ends _ _ _ _ (T2823.setTop (mkF m 241 #[rv r0, iv 3, .val .null, rv b2337, rv b2349, rv b2573, rv nxa, iv 1, .val (.long ((((0 : Int64) + (n10.toInt64)) + (n11.toInt64)) + (n12.toInt64))), .second, iv 3, iv n12, iv j_12] []))
                    refine o_iinc Y2824 hx hby d16_241 rfl (l' := #[rv r0, iv 3, .val .null, rv b2337, rv b2349, rv b2573, rv nxa, iv 2, .val (.long ((((0 : Int64) + (n10.toInt64)) + (n11.toInt64)) + (n12.toInt64))), .second, iv 3, iv n12, iv j_12]) rfl ?_
                    refine o_goto Y2824 hx hby (pc' := 42) d16_244 (by decide) (by decide) ?_
                    refine o_iload Y2824 hx hby d16_42 rfl ?_
                    refine o_iconst Y2824 hx hby d16_44 (x := 2) rfl ?_
                    refine o_icmpYes Y2824 hx hby (pc' := 247) d16_45 rfl (XT.ii_ge_t (by decide)) (by decide) (by decide) ?_
                    show own_Ends _ _ _ _ (T2823.setTop (mkF m 247 #[rv r0, iv 3, .val .null, rv b2337, rv b2349, rv b2573, rv nxa, iv 2, .val (.long ((((0 : Int64) + (n10.toInt64)) + (n11.toInt64)) + (n12.toInt64))), .second, iv 3, iv n12, iv j_12] []))
                    refine o_aload Y2824 hx hby d16_247 rfl rfl ?_
                    have f2828 := f2789.other W2826 (Ne.symm ne2581)
                    refine p_len Y2824 hx hZ f2828 (z := ln2) (own_tolen hbl) hby rfl d16_249 ?_
                    refine own_newP Y2824 hx hZ (own_w hw 99 rfl) rfl (hb hby d16_250) rfl (own_nat hln2).1 (nz := mm2) (cap := 6) (own_nat hln2).2 hmm6 (by decide) (by decide) (by decide) (ty := .int) rfl (fun T2829 h2831 b2834 eb2835 Y2830 E2832 A2833 => ?_)
                    have f2836 := f2782.wr W2826
                    have ne2837 : r0 ≠ b2834 := Nat.ne_of_lt (by rw [eb2835]; exact f2836.lt)
                    have f2838 := f2785.other W2826 ne2341
                    have ne2839 : ea ≠ b2834 := Nat.ne_of_lt (by rw [eb2835]; exact f2838.lt)
                    have f2840 := f2786.other W2826 ne2342
                    have ne2841 : ga ≠ b2834 := Nat.ne_of_lt (by rw [eb2835]; exact f2840.lt)
                    have ne2842 : b2337 ≠ b2834 := Nat.ne_of_lt (by rw [eb2835]; exact A2827.lt)
                    have f2843 := f2788.other W2826 (Ne.symm ne2359)
                    have ne2844 : b2349 ≠ b2834 := Nat.ne_of_lt (by rw [eb2835]; exact f2843.lt)
                    have ne2845 : b2573 ≠ b2834 := Nat.ne_of_lt (by rw [eb2835]; exact f2828.lt)
                    have f2846 := f2790.other W2826 (Ne.symm ne2603)
                    have ne2847 : nxa ≠ b2834 := Nat.ne_of_lt (by rw [eb2835]; exact f2846.lt)
                    have z2849 : n0 ≤ h2825.size := Nat.le_trans z2781 (Nat.le_of_eq W2826.size.symm)
                    have g2848 : n0 ≤ b2834 := by rw [eb2835]; exact z2849
                    show own_Ends _ _ _ _ (T2829.setTop (mkF m 252 #[rv r0, iv 3, .val .null, rv b2337, rv b2349, rv b2573, rv nxa, iv 2, .val (.long ((((0 : Int64) + (n10.toInt64)) + (n11.toInt64)) + (n12.toInt64))), .second, iv 3, iv n12, iv j_12] [(.ref b2834)]))
                    refine o_astore Y2830 hx hby d16_252 rfl rfl (l' := #[rv r0, iv 3, .val .null, rv b2337, rv b2349, rv b2573, rv nxa, rv b2834, .val (.long ((((0 : Int64) + (n10.toInt64)) + (n11.toInt64)) + (n12.toInt64))), .second, iv 3, iv n12, iv j_12]) rfl ?_
                    refine o_aload Y2830 hx hby d16_254 rfl rfl ?_
                    refine o_iconst Y2830 hx hby d16_256 (x := 1) rfl ?_
                    have z2850 : n0 ≤ h2831.size := Nat.le_trans z2849 E2832.1
                    refine own_callS Y2830 hx hZ (y := (⟨"java/util/Arrays", "fill", "([II)V"⟩ : MethodName)) hown (own_w hw 161 rfl) (own_w hw 162 rfl) (own_w hw 163 rfl) (own_w hw 164 rfl) (by decide) (argsL := [(.ref b2834), (.int 1)]) (rest := []) (own_rm19 l Z a0 hw [] b2834 (1 : Int32) (List.replicate mm2 0) ln2 h2831 n0 z2850 (by rw [List.map_replicate]; exact A2833) (by rw [List.length_replicate]; exact hln2) g2848) (W := 0) (by decide) (by decide) (by decide) (by decide) rfl (by rw [hml]; rfl) (lenOf own_pd10 rfl) rfl (by show 2 * 0 + _ ≤ _; exact Nat.le_of_eq rfl) (hb hby d16_257) (fun T2851 h2853 v2854 Y2852 q2855 => ?_)
                    obtain ⟨rfl, K2856, A2857⟩ := q2855
                    rw [List.length_replicate] at A2857
                    show own_Ends _ _ _ _ (T2851.setTop (mkF m 260 #[rv r0, iv 3, .val .null, rv b2337, rv b2349, rv b2573, rv nxa, rv b2834, .val (.long ((((0 : Int64) + (n10.toInt64)) + (n11.toInt64)) + (n12.toInt64))), .second, iv 3, iv n12, iv j_12] []))
                    refine o_iloadN Y2852 hx hby d16_260 rfl ?_
                    refine own_newP Y2852 hx hZ (own_w hw 99 rfl) rfl (hb hby d16_261) rfl (by decide) (nz := 3) (cap := 3) (by decide) (by decide) (by decide) (by decide) (by decide) (ty := .int) rfl (fun T2858 h2860 b2863 eb2864 Y2859 E2861 A2862 => ?_)
                    have f2865 := f2836.ext E2832
                    have f2866 := f2865.keep K2856
                    have ne2867 : r0 ≠ b2863 := Nat.ne_of_lt (by rw [eb2864]; exact f2866.lt)
                    have f2868 := f2838.ext E2832
                    have f2869 := f2868.keep K2856 (ninS ne2839 nin0)
                    have ne2870 : ea ≠ b2863 := Nat.ne_of_lt (by rw [eb2864]; exact f2869.lt)
                    have f2871 := f2840.ext E2832
                    have f2872 := f2871.keep K2856 (ninS ne2841 nin0)
                    have ne2873 : ga ≠ b2863 := Nat.ne_of_lt (by rw [eb2864]; exact f2872.lt)
                    have f2874 := A2827.ext E2832
                    have f2875 := f2874.keep K2856 (ninS ne2842 nin0)
                    have ne2876 : b2337 ≠ b2863 := Nat.ne_of_lt (by rw [eb2864]; exact f2875.lt)
                    have f2877 := f2843.ext E2832
                    have f2878 := f2877.keep K2856 (ninS ne2844 nin0)
                    have ne2879 : b2349 ≠ b2863 := Nat.ne_of_lt (by rw [eb2864]; exact f2878.lt)
                    have f2880 := f2828.ext E2832
                    have f2881 := f2880.keep K2856 (ninS ne2845 nin0)
                    have ne2882 : b2573 ≠ b2863 := Nat.ne_of_lt (by rw [eb2864]; exact f2881.lt)
                    have f2883 := f2846.ext E2832
                    have f2884 := f2883.keep K2856 (ninS ne2847 nin0)
                    have ne2885 : nxa ≠ b2863 := Nat.ne_of_lt (by rw [eb2864]; exact f2884.lt)
                    have ne2886 : b2834 ≠ b2863 := Nat.ne_of_lt (by rw [eb2864]; exact A2857.lt)
                    have z2888 : n0 ≤ h2853.size := Nat.le_trans z2850 K2856.1
                    have g2887 : n0 ≤ b2863 := by rw [eb2864]; exact z2888
                    replace A2862 : own_A Z h2860 b2863 .int [(.int 0), (.int 0), (.int 0)] := A2862
                    show own_Ends _ _ _ _ (T2858.setTop (mkF m 263 #[rv r0, iv 3, .val .null, rv b2337, rv b2349, rv b2573, rv nxa, rv b2834, .val (.long ((((0 : Int64) + (n10.toInt64)) + (n11.toInt64)) + (n12.toInt64))), .second, iv 3, iv n12, iv j_12] [(.ref b2863)]))
                    refine o_astore Y2859 hx hby d16_263 rfl rfl (l' := #[rv r0, iv 3, .val .null, rv b2337, rv b2349, rv b2573, rv nxa, rv b2834, rv b2863, .unset, iv 3, iv n12, iv j_12]) rfl ?_
                    refine o_aload Y2859 hx hby d16_265 rfl rfl ?_
                    refine o_iconst Y2859 hx hby d16_267 (x := 1) rfl ?_
                    have z2889 : n0 ≤ h2860.size := Nat.le_trans z2888 E2861.1
                    refine own_callS Y2859 hx hZ (y := (⟨"java/util/Arrays", "fill", "([II)V"⟩ : MethodName)) hown (own_w hw 161 rfl) (own_w hw 162 rfl) (own_w hw 163 rfl) (own_w hw 164 rfl) (by decide) (argsL := [(.ref b2863), (.int 1)]) (rest := []) (own_rm19 l Z a0 hw [] b2863 (1 : Int32) [(0 : Int32), (0 : Int32), (0 : Int32)] (3 : Int32) h2860 n0 z2889 A2862 rfl g2887) (W := 0) (by decide) (by decide) (by decide) (by decide) rfl (by rw [hml]; rfl) (lenOf own_pd10 rfl) rfl (by show 2 * 0 + _ ≤ _; exact Nat.le_of_eq rfl) (hb hby d16_268) (fun T2890 h2892 v2893 Y2891 q2894 => ?_)
                    obtain ⟨rfl, K2895, A2896⟩ := q2894
                    replace A2896 : own_A Z h2892 b2863 .int ([(1 : Int32), (1 : Int32), (1 : Int32)].map Value.int) := A2896
                    show own_Ends _ _ _ _ (T2890.setTop (mkF m 271 #[rv r0, iv 3, .val .null, rv b2337, rv b2349, rv b2573, rv nxa, rv b2834, rv b2863, .unset, iv 3, iv n12, iv j_12] []))
                    refine own_new Y2891 hx hZ hown (own_w hw 188 rfl) (own_w hw 189 rfl) (own_w hw 148 rfl) rfl (hb hby d16_271) (by decide) (by decide) (fun T2897 h2899 b2903 eb2904 Y2898 E2900 X2901 D2902 => ?_)
                    have f2905 := f2866.ext E2861
                    have f2906 := f2905.keep K2895
                    have ne2907 : r0 ≠ b2903 := Nat.ne_of_lt (by rw [eb2904]; exact f2906.lt)
                    have f2908 := f2869.ext E2861
                    have f2909 := f2908.keep K2895 (ninS ne2870 nin0)
                    have ne2910 : ea ≠ b2903 := Nat.ne_of_lt (by rw [eb2904]; exact f2909.lt)
                    have f2911 := f2872.ext E2861
                    have f2912 := f2911.keep K2895 (ninS ne2873 nin0)
                    have ne2913 : ga ≠ b2903 := Nat.ne_of_lt (by rw [eb2904]; exact f2912.lt)
                    have f2914 := f2875.ext E2861
                    have f2915 := f2914.keep K2895 (ninS ne2876 nin0)
                    have ne2916 : b2337 ≠ b2903 := Nat.ne_of_lt (by rw [eb2904]; exact f2915.lt)
                    have f2917 := f2878.ext E2861
                    have f2918 := f2917.keep K2895 (ninS ne2879 nin0)
                    have ne2919 : b2349 ≠ b2903 := Nat.ne_of_lt (by rw [eb2904]; exact f2918.lt)
                    have f2920 := f2881.ext E2861
                    have f2921 := f2920.keep K2895 (ninS ne2882 nin0)
                    have ne2922 : b2573 ≠ b2903 := Nat.ne_of_lt (by rw [eb2904]; exact f2921.lt)
                    have f2923 := f2884.ext E2861
                    have f2924 := f2923.keep K2895 (ninS ne2885 nin0)
                    have ne2925 : nxa ≠ b2903 := Nat.ne_of_lt (by rw [eb2904]; exact f2924.lt)
                    have f2926 := A2857.ext E2861
                    have f2927 := f2926.keep K2895 (ninS ne2886 nin0)
                    have ne2928 : b2834 ≠ b2903 := Nat.ne_of_lt (by rw [eb2904]; exact f2927.lt)
                    have ne2929 : b2863 ≠ b2903 := Nat.ne_of_lt (by rw [eb2904]; exact A2896.lt)
                    have z2931 : n0 ≤ h2892.size := Nat.le_trans z2889 K2895.1
                    have g2930 : n0 ≤ b2903 := by rw [eb2904]; exact z2931
                    have F2932 : Fld Z h2899 b2903 "kombos/query/SimpleGraph" "edgeStart" "[I" .null := D2902 _ _ _ (.array .int) (Or.inr (own_w hw 195 rfl)) (by decide)
                    have F2933 : Fld Z h2899 b2903 "kombos/query/SimpleGraph" "neighbour" "[I" .null := D2902 _ _ _ (.array .int) (Or.inr (own_w hw 197 rfl)) (by decide)
                    have F2934 : Fld Z h2899 b2903 "kombos/query/SimpleGraph" "edgeWeight" "[I" .null := D2902 _ _ _ (.array .int) (Or.inr (own_w hw 199 rfl)) (by decide)
                    have F2935 : Fld Z h2899 b2903 "kombos/query/SimpleGraph" "vertexWeight" "[I" .null := D2902 _ _ _ (.array .int) (Or.inr (own_w hw 201 rfl)) (by decide)
                    have F2936 : Fld Z h2899 b2903 "kombos/query/SimpleGraph" "totalWeight" "J" (.long 0) := D2902 _ _ _ .long (Or.inr (own_w hw 203 rfl)) (by decide)
                    have F2937 : Fld Z h2899 b2903 "kombos/query/SimpleGraph" "maxVertexWeight" "I" (.int 0) := D2902 _ _ _ .int (Or.inr (own_w hw 205 rfl)) (by decide)
                    show own_Ends _ _ _ _ (T2897.setTop (mkF m 274 #[rv r0, iv 3, .val .null, rv b2337, rv b2349, rv b2573, rv nxa, rv b2834, rv b2863, .unset, iv 3, iv n12, iv j_12] [(.ref b2903)]))
                    refine o_dup Y2898 hx hby d16_274 rfl rfl ?_
                    refine o_aloadN Y2898 hx hby d16_275 rfl rfl ?_
                    refine o_aload Y2898 hx hby d16_276 rfl rfl ?_
                    refine o_aload Y2898 hx hby d16_278 rfl rfl ?_
                    refine o_aload Y2898 hx hby d16_280 rfl rfl ?_
                    refine o_iloadN Y2898 hx hby d16_282 rfl ?_
                    refine o_i2l Y2898 hx hby d16_283 rfl (z := 3) rfl ?_
                    refine o_iconst Y2898 hx hby d16_284 (x := 1) rfl ?_
                    refine own_callN Y2898 hx hZ (y := (⟨"kombos/query/SimpleGraph", "<init>", "([I[I[I[IJI)V"⟩ : MethodName)) rfl hown (own_w hw 190 rfl) (own_w hw 191 rfl) (own_w hw 148 rfl) (own_w hw 192 rfl) (by decide) (a := b2903) (argsL := [(.ref b2337), (.ref b2573), (.ref b2834), (.ref b2863), (.long 3), (.int 1)]) (rest := [(.ref b2903)]) (own_rm25 l Z a0 hw [] b2903 b2337 b2573 b2834 b2863 (3 : Int64) (1 : Int32)  h2899 n0  X2901 F2932 F2933 F2934 F2935 F2936 F2937 g2930) (W := 1) (by decide) (by decide) (by decide) (by decide) rfl (by rw [hml]; rfl) (lenOf own_pd16 rfl) rfl (by show 2 * 0 + _ ≤ _; exact Nat.le_of_eq rfl) (hb hby d16_285) (fun T2938 h2940 v2941 Y2939 q2942 => ?_)
                    obtain ⟨rfl, K2943, F2944, F2945, F2946, F2947, F2948⟩ := q2942
                    show own_Ends _ _ _ _ (T2938.setTop (mkF m 288 #[rv r0, iv 3, .val .null, rv b2337, rv b2349, rv b2573, rv nxa, rv b2834, rv b2863, .unset, iv 3, iv n12, iv j_12] [(.ref b2903)]))
                    have z2949 : n0 ≤ h2899.size := Nat.le_trans z2931 E2900.1
                    have z2950 : n0 ≤ h2940.size := Nat.le_trans z2949 K2943.1
                    have f2951 := f2915.ext E2900
                    have f2952 := f2951.keep K2943 (ninS ne2916 nin0)
                    have f2953 := f2921.ext E2900
                    have f2954 := f2953.keep K2943 (ninS ne2922 nin0)
                    have f2955 := f2927.ext E2900
                    have f2956 := f2955.keep K2943 (ninS ne2928 nin0)
                    have f2957 := A2896.ext E2900
                    have f2958 := f2957.keep K2943 (ninS ne2929 nin0)
                    refine own_retA Y2939 hx hlk hret rfl rfl rfl (hb hby d16_288) (by decide) (by decide) ?_
                    exact ⟨_, _, _, _, _, rfl, z2950, F2944, F2945, F2946, F2947, F2948, f2952, f2954, f2956, f2958⟩
                 have z2959 : n0 ≤ h2756.size := Nat.le_trans z2712 (Nat.le_of_eq W2757.size.symm)
                 have z2960 : n0 ≤ h2762.size := Nat.le_trans z2959 (Nat.le_of_eq W2763.size.symm)
                 have f2961 := f2715.other W2757 (Or.inl ne2339)
                 have f2962 := f2961.other W2763 (Or.inl ne2352)
                 have f2963 := f2717.other W2757 ne2342
                 have f2964 := f2963.other W2763 ne2358
                 have f2965 := A2758.other W2763 ne2359
                 have f2966 := f2720.other W2757 (Ne.symm ne2581)
                 have f2967 := f2966.other W2763 (Ne.symm ne2583)
                 have f2968 := f2721.other W2757 (Ne.symm ne2603)
                 have f2969 := f2968.other W2763 (Ne.symm ne2605)
                 exact hL2777 (l2 - l1) T2772 h2762 (l1) (e1) ((0 : Int32)) ((sn12.set 2 (2 : Int32))) (xn2) (bn2) Y2773 z2960 f2767 f2769 f2962 f2771 f2964 f2965 A2765 f2967 f2969 hl1 (by omega) M12
              have z2970 : n0 ≤ h2687.size := Nat.le_trans z2643 (Nat.le_of_eq W2688.size.symm)
              have z2971 : n0 ≤ h2693.size := Nat.le_trans z2970 (Nat.le_of_eq W2694.size.symm)
              have f2972 := f2646.other W2688 (Or.inl ne2339)
              have f2973 := f2972.other W2694 (Or.inl ne2352)
              have f2974 := f2648.other W2688 ne2342
              have f2975 := f2974.other W2694 ne2358
              have f2976 := A2689.other W2694 ne2359
              have f2977 := f2651.other W2688 (Ne.symm ne2581)
              have f2978 := f2977.other W2694 (Ne.symm ne2583)
              have f2979 := f2652.other W2688 (Ne.symm ne2603)
              have f2980 := f2979.other W2694 (Ne.symm ne2605)
              exact hL2708 (l1 - l0) T2703 h2693 (l0) (e0) ((0 : Int32)) ((sn11.set 1 (1 : Int32))) (xn1) (bn1) Y2704 z2971 f2698 f2700 f2973 f2702 f2975 f2976 A2696 f2978 f2980 hl0 (by omega) M11
           have z2981 : n0 ≤ h2612.size := Nat.le_trans z2609 K2615.1
           have z2982 : n0 ≤ h2619.size := Nat.le_trans z2981 (Nat.le_of_eq W2620.size.symm)
           have f2983 := f2528.other W2566 (Or.inl ne2339)
           have f2984 := f2983.ext E2571
           have f2985 := f2984.keep K2594 nin0
           have f2986 := f2985.keep K2615 (ninS ne2352 nin0)
           have f2987 := f2986.other W2620 (Or.inl ne2352)
           have f2988 := f2601.keep K2594 nin0
           have f2989 := f2988.keep K2615 (ninS ne2358 nin0)
           have f2990 := f2989.other W2620 ne2358
           have f2991 := f2587.keep K2594 nin0
           have f2992 := f2991.keep K2615 (ninS ne2359 nin0)
           have f2993 := f2992.other W2620 ne2359
           have f2994 := A2586.keep K2594 nin0
           have f2995 := f2994.keep K2615 (ninS (Ne.symm ne2583) nin0)
           have f2996 := f2995.other W2620 (Ne.symm ne2583)
           have f2997 := A2595.keep K2615 (ninS (Ne.symm ne2605) nin0)
           have f2998 := f2997.other W2620 (Ne.symm ne2605)
           exact hL2639 (l0 - 0) T2634 h2619 (0) ((0 : Int32)) ((0 : Int32)) ((([(-1 : Int32), (-1 : Int32), (-1 : Int32)]).set 0 (0 : Int32))) ([(0 : Int32), u00, u01]) ((List.replicate mm2 (0 : Int32))) Y2635 z2982 f2625 f2630 f2987 f2633 f2990 f2993 A2622 f2996 f2998 own_l0 (by omega) M10
        have z2999 : n0 ≤ h2500.size := Nat.le_trans z2460 (Nat.le_of_eq W2501.size.symm)
        have z3000 : n0 ≤ h2506.size := Nat.le_trans z2999 (Nat.le_of_eq W2507.size.symm)
        have f3001 := f2463.other W2501 (Or.inl ne2339)
        have f3002 := f3001.other W2507 (Or.inl ne2352)
        have f3003 := f2465.other W2501 ne2342
        have f3004 := f3003.other W2507 ne2358
        have f3005 := A2502.other W2507 ne2359
        exact hL2521 (l2 - l1) T2516 h2506 (l1) (e1) ((0 : Int32)) ((sn02.set 2 (2 : Int32))) Y2517 z3000 f2511 f2513 f3002 f2515 f3004 f3005 A2509 hl1 (by omega) M02
     have z3006 : n0 ≤ h2435.size := Nat.le_trans z2395 (Nat.le_of_eq W2436.size.symm)
     have z3007 : n0 ≤ h2441.size := Nat.le_trans z3006 (Nat.le_of_eq W2442.size.symm)
     have f3008 := f2398.other W2436 (Or.inl ne2339)
     have f3009 := f3008.other W2442 (Or.inl ne2352)
     have f3010 := f2400.other W2436 ne2342
     have f3011 := f3010.other W2442 ne2358
     have f3012 := A2437.other W2442 ne2359
     exact hL2456 (l1 - l0) T2451 h2441 (l0) (e0) ((0 : Int32)) ((sn01.set 1 (1 : Int32))) Y2452 z3007 f2446 f2448 f3009 f2450 f3011 f3012 A2444 hl0 (by omega) M01
  have z3013 : n0 ≤ h2365.size := Nat.le_trans z2362 K2368.1
  have z3014 : n0 ≤ h2372.size := Nat.le_trans z3013 (Nat.le_of_eq W2373.size.symm)
  have f3015 := Fg_edgeTarget.ext E2335
  have f3016 := f3015.ext E2347
  have f3017 := f3016.keep K2368 (ninS ne2352 nin0)
  have f3018 := f3017.other W2373 (Or.inl ne2352)
  have f3019 := f2357.ext E2347
  have f3020 := f3019.keep K2368 (ninS ne2358 nin0)
  have f3021 := f3020.other W2373 ne2358
  have f3022 := A2336.ext E2347
  have f3023 := f3022.keep K2368 (ninS ne2359 nin0)
  have f3024 := f3023.other W2373 ne2359
  exact hL2391 (l0 - 0) T2386 h2372 (0) ((0 : Int32)) ((0 : Int32)) ((([(-1 : Int32), (-1 : Int32), (-1 : Int32)]).set 0 (0 : Int32))) Y2387 z3014 f2378 f2382 f3018 f2385 f3021 f3024 A2375 own_l0 (by omega) M00
theorem own_pn6 : plainName "kombos/query/CellRefinement" = true := by first | (simp [plainName, overriddenIn]; done) | decide +kernel
theorem own_f10 : parseFieldDescriptor "Lkombos/query/SimpleGraph;" = some (.object "kombos/query/SimpleGraph") := by decide
def bc26 : ByteArray := prog_81_method_1_code
theorem d26_0 : decode bc26 0 = .ok (.aload_n 0, 1) := by decide +kernel
theorem d26_1 : decode bc26 1 = .ok (.invokespecial 1, 3) := by decide +kernel
theorem d26_4 : decode bc26 4 = .ok (.aload_n 0, 1) := by decide +kernel
theorem d26_5 : decode bc26 5 = .ok (.iload_n 1, 1) := by decide +kernel
theorem d26_6 : decode bc26 6 = .ok (.newarray .int, 2) := by decide +kernel
theorem d26_8 : decode bc26 8 = .ok (.putfield 7, 3) := by decide +kernel
theorem d26_11 : decode bc26 11 = .ok (.aload_n 0, 1) := by decide +kernel
theorem d26_12 : decode bc26 12 = .ok (.iload_n 2, 1) := by decide +kernel
theorem d26_13 : decode bc26 13 = .ok (.putfield 13, 3) := by decide +kernel
theorem d26_16 : decode bc26 16 = .ok (.aload_n 0, 1) := by decide +kernel
theorem d26_17 : decode bc26 17 = .ok (.iload_n 1, 1) := by decide +kernel
theorem d26_18 : decode bc26 18 = .ok (.newarray .int, 2) := by decide +kernel
theorem d26_20 : decode bc26 20 = .ok (.putfield 17, 3) := by decide +kernel
theorem d26_23 : decode bc26 23 = .ok (.aload_n 0, 1) := by decide +kernel
theorem d26_24 : decode bc26 24 = .ok (.iload_n 1, 1) := by decide +kernel
theorem d26_25 : decode bc26 25 = .ok (.newarray .int, 2) := by decide +kernel
theorem d26_27 : decode bc26 27 = .ok (.putfield 20, 3) := by decide +kernel
theorem d26_30 : decode bc26 30 = .ok (.aload_n 0, 1) := by decide +kernel
theorem d26_31 : decode bc26 31 = .ok (.iload_n 1, 1) := by decide +kernel
theorem d26_32 : decode bc26 32 = .ok (.newarray .int, 2) := by decide +kernel
theorem d26_34 : decode bc26 34 = .ok (.putfield 23, 3) := by decide +kernel
theorem d26_37 : decode bc26 37 = .ok (.return_, 1) := by decide +kernel
theorem own_ef_own_rm26 (m : MethodId) (r0 : Addr) (x2 : Int32) : entryFrame m #[(.ref r0), (.int 4), (.int x2)] 3 = mkF m 0 #[rv r0, iv 4, iv x2] [] := by first | (simp [entryFrame, mkF, argsToLocals, Value.category]; done) | rfl
def own_Q_own_rm26 (Z : State) (r0 : Addr) (h0 : Heap) (n0 : Nat) (v : Option Value) (h : Heap) : Prop := ∃ sz : Addr, v = none ∧ Keep h0 h [r0] ∧ Exa Z h r0 "kombos/query/CellRefinement" ∧ Fld Z h r0 "kombos/query/CellRefinement" "size" "[I" (.ref sz) ∧ Fld Z h r0 "kombos/query/CellRefinement" "graph" "Lkombos/query/SimpleGraph;" .null ∧ Fld Z h r0 "kombos/query/CellRefinement" "cellOf" "[I" .null ∧ Fld Z h r0 "kombos/query/CellRefinement" "degree" "[I" .null ∧ Fld Z h r0 "kombos/query/CellRefinement" "outside" "[I" .null ∧ Fld Z h r0 "kombos/query/CellRefinement" "boundary" "[J" .null ∧ Fld Z h r0 "kombos/query/CellRefinement" "quiet" "[J" .null ∧ own_A Z h sz .int ([(0 : Int32), (0 : Int32), (0 : Int32), (0 : Int32)].map Value.int) ∧ h0.size ≤ sz
set_option maxRecDepth 65536 in
set_option maxHeartbeats 40000000 in
theorem own_rm26 (l : Launch) (Z : State) (a0 : Array Value) (hw : ∀ d ∈ tables_1, d.before a0 Z = true) (ws : List Jvm.Cond) (r0 : Addr) (x2 : Int32)  (h0 : Heap) (n0 : Nat) (Z0 : n0 ≤ h0.size) (Ec : Exa Z h0 r0 "kombos/query/CellRefinement") (Fc_size : Fld Z h0 r0 "kombos/query/CellRefinement" "size" "[I" .null) (Fc_mostPerCell : Fld Z h0 r0 "kombos/query/CellRefinement" "mostPerCell" "I" (.int 0)) (Fc_edgesTo : Fld Z h0 r0 "kombos/query/CellRefinement" "edgesTo" "[I" .null) (Fc_freed : Fld Z h0 r0 "kombos/query/CellRefinement" "freed" "[I" .null) (Fc_touched : Fld Z h0 r0 "kombos/query/CellRefinement" "touched" "[I" .null) (Fc_graph : Fld Z h0 r0 "kombos/query/CellRefinement" "graph" "Lkombos/query/SimpleGraph;" .null) (Fc_cellOf : Fld Z h0 r0 "kombos/query/CellRefinement" "cellOf" "[I" .null) (Fc_degree : Fld Z h0 r0 "kombos/query/CellRefinement" "degree" "[I" .null) (Fc_outside : Fld Z h0 r0 "kombos/query/CellRefinement" "outside" "[I" .null) (Fc_boundary : Fld Z h0 r0 "kombos/query/CellRefinement" "boundary" "[J" .null) (Fc_quiet : Fld Z h0 r0 "kombos/query/CellRefinement" "quiet" "[J" .null) (g : n0 ≤ r0) :
    own_Con l Z (⟨"kombos/query/CellRefinement", "<init>", "(II)V"⟩ : MethodName) prog_81_method_1_code 3 none ws ({ frames := 1, cells := 4, slots := 16, locals := 12 } : Room) #[(.ref r0), (.int 4), (.int x2)] h0 n0 (own_Q_own_rm26 Z r0 h0 n0) := by
  refine own_body (plainFor_of_name own_pn6) ?_
  intro p e s m below meth c T0 hx hZ hby hml hown hnm hret hlk Y0
  replace hown : s.vm.findClass "kombos/query/CellRefinement" = some m.cls := hown
  replace hnm : meth.name = "<init>" := hnm
  rw [own_ef_own_rm26 m r0 x2]
  show own_Ends _ _ _ _ (T0.setTop (mkF m 0 #[rv r0, iv 4, iv x2] []))
  refine o_aloadN Y0 hx hby d26_0 rfl rfl ?_
  refine own_initO Y0 hx hZ hown (own_w hw 212 rfl) (own_w hw 12 rfl) (own_w hw 13 rfl) rfl (by rw [hml]; rfl) rfl (hb hby d26_1) (by decide) (W := 0) (by show 2 * 0 + _ ≤ _; exact Nat.le_of_eq rfl) (by decide) (fun T3025 Y3026 => ?_)
  show own_Ends _ _ _ _ (T3025.setTop (mkF m 4 #[rv r0, iv 4, iv x2] []))
  refine o_aloadN Y3026 hx hby d26_4 rfl rfl ?_
  refine o_iloadN Y3026 hx hby d26_5 rfl ?_
  refine own_newP Y3026 hx hZ (own_w hw 99 rfl) rfl (hb hby d26_6) rfl (by decide) (nz := 4) (cap := 4) (by decide) (by decide) (by decide) (by decide) (by decide) (ty := .int) rfl (fun T3027 h3029 b3032 eb3033 Y3028 E3030 A3031 => ?_)
  have ne3034 : r0 ≠ b3032 := Nat.ne_of_lt (by rw [eb3033]; exact Ec.lt)
  have g3035 : n0 ≤ b3032 := by rw [eb3033]; exact Z0
  replace A3031 : own_A Z h3029 b3032 .int [(.int 0), (.int 0), (.int 0), (.int 0)] := A3031
  show own_Ends _ _ _ _ (T3027.setTop (mkF m 8 #[rv r0, iv 4, iv x2] [(.ref b3032), (.ref r0)]))
  have f3036 := Ec.ext E3030
  have f3037 := Fc_size.ext E3030
  refine p_putF Y3028 hx hZ hown (host := "") (Or.inl (own_w hw 213 rfl)) Via.refl f3037 f3036 (Or.inr ⟨(own_w hw 214 rfl), rfl, hnm⟩) (own_w hw 207 rfl) g (ty := (.array .int)) (by decide) rfl rfl hby rfl d26_8 (fun T3038 h3040 Y3039 W3041 F3042 => ?_)
  refine o_aloadN Y3039 hx hby d26_11 rfl rfl ?_
  refine o_iloadN Y3039 hx hby d26_12 rfl ?_
  have f3043 := f3036.wr W3041
  have f3044 := Fc_mostPerCell.ext E3030
  have f3045 := own_sn f3044 W3041 (own_wf hw 216 rfl) (own_wf hw 214 rfl) (by decide) own_f1 own_f3
  refine p_putF Y3039 hx hZ hown (host := "") (Or.inl (own_w hw 215 rfl)) Via.refl f3045 f3043 (Or.inr ⟨(own_w hw 216 rfl), rfl, hnm⟩) (own_w hw 207 rfl) g (ty := .int) (by decide) rfl rfl hby rfl d26_13 (fun T3046 h3048 Y3047 W3049 F3050 => ?_)
  refine o_aloadN Y3047 hx hby d26_16 rfl rfl ?_
  refine o_iloadN Y3047 hx hby d26_17 rfl ?_
  refine own_newP Y3047 hx hZ (own_w hw 99 rfl) rfl (hb hby d26_18) rfl (by decide) (nz := 4) (cap := 4) (by decide) (by decide) (by decide) (by decide) (by decide) (ty := .int) rfl (fun T3051 h3053 b3056 eb3057 Y3052 E3054 A3055 => ?_)
  have f3058 := f3043.wr W3049
  have ne3059 : r0 ≠ b3056 := Nat.ne_of_lt (by rw [eb3057]; exact f3058.lt)
  have f3060 := A3031.other W3041 (Ne.symm ne3034)
  have f3061 := f3060.other W3049 (Ne.symm ne3034)
  have ne3062 : b3032 ≠ b3056 := Nat.ne_of_lt (by rw [eb3057]; exact f3061.lt)
  have z3064 : n0 ≤ h3029.size := Nat.le_trans Z0 E3030.1
  have z3065 : n0 ≤ h3040.size := Nat.le_trans z3064 (Nat.le_of_eq W3041.size.symm)
  have z3066 : n0 ≤ h3048.size := Nat.le_trans z3065 (Nat.le_of_eq W3049.size.symm)
  have g3063 : n0 ≤ b3056 := by rw [eb3057]; exact z3066
  replace A3055 : own_A Z h3053 b3056 .int [(.int 0), (.int 0), (.int 0), (.int 0)] := A3055
  show own_Ends _ _ _ _ (T3051.setTop (mkF m 20 #[rv r0, iv 4, iv x2] [(.ref b3056), (.ref r0)]))
  have f3067 := f3058.ext E3054
  have f3068 := Fc_edgesTo.ext E3030
  have f3069 := own_sn f3068 W3041 (own_wf hw 218 rfl) (own_wf hw 214 rfl) (by decide) own_f3 own_f3
  have f3070 := own_sn f3069 W3049 (own_wf hw 218 rfl) (own_wf hw 216 rfl) (by decide) own_f3 own_f1
  have f3071 := f3070.ext E3054
  refine p_putF Y3052 hx hZ hown (host := "") (Or.inl (own_w hw 217 rfl)) Via.refl f3071 f3067 (Or.inr ⟨(own_w hw 218 rfl), rfl, hnm⟩) (own_w hw 207 rfl) g (ty := (.array .int)) (by decide) rfl rfl hby rfl d26_20 (fun T3072 h3074 Y3073 W3075 F3076 => ?_)
  refine o_aloadN Y3073 hx hby d26_23 rfl rfl ?_
  refine o_iloadN Y3073 hx hby d26_24 rfl ?_
  refine own_newP Y3073 hx hZ (own_w hw 99 rfl) rfl (hb hby d26_25) rfl (by decide) (nz := 4) (cap := 4) (by decide) (by decide) (by decide) (by decide) (by decide) (ty := .int) rfl (fun T3077 h3079 b3082 eb3083 Y3078 E3080 A3081 => ?_)
  have f3084 := f3067.wr W3075
  have ne3085 : r0 ≠ b3082 := Nat.ne_of_lt (by rw [eb3083]; exact f3084.lt)
  have f3086 := f3061.ext E3054
  have f3087 := f3086.other W3075 (Ne.symm ne3034)
  have ne3088 : b3032 ≠ b3082 := Nat.ne_of_lt (by rw [eb3083]; exact f3087.lt)
  have f3089 := A3055.other W3075 (Ne.symm ne3059)
  have ne3090 : b3056 ≠ b3082 := Nat.ne_of_lt (by rw [eb3083]; exact f3089.lt)
  have z3092 : n0 ≤ h3053.size := Nat.le_trans z3066 E3054.1
  have z3093 : n0 ≤ h3074.size := Nat.le_trans z3092 (Nat.le_of_eq W3075.size.symm)
  have g3091 : n0 ≤ b3082 := by rw [eb3083]; exact z3093
  replace A3081 : own_A Z h3079 b3082 .int [(.int 0), (.int 0), (.int 0), (.int 0)] := A3081
  show own_Ends _ _ _ _ (T3077.setTop (mkF m 27 #[rv r0, iv 4, iv x2] [(.ref b3082), (.ref r0)]))
  have f3094 := f3084.ext E3080
  have f3095 := Fc_freed.ext E3030
  have f3096 := own_sn f3095 W3041 (own_wf hw 220 rfl) (own_wf hw 214 rfl) (by decide) own_f3 own_f3
  have f3097 := own_sn f3096 W3049 (own_wf hw 220 rfl) (own_wf hw 216 rfl) (by decide) own_f3 own_f1
  have f3098 := f3097.ext E3054
  have f3099 := own_sn f3098 W3075 (own_wf hw 220 rfl) (own_wf hw 218 rfl) (by decide) own_f3 own_f3
  have f3100 := f3099.ext E3080
  refine p_putF Y3078 hx hZ hown (host := "") (Or.inl (own_w hw 219 rfl)) Via.refl f3100 f3094 (Or.inr ⟨(own_w hw 220 rfl), rfl, hnm⟩) (own_w hw 207 rfl) g (ty := (.array .int)) (by decide) rfl rfl hby rfl d26_27 (fun T3101 h3103 Y3102 W3104 F3105 => ?_)
  refine o_aloadN Y3102 hx hby d26_30 rfl rfl ?_
  refine o_iloadN Y3102 hx hby d26_31 rfl ?_
  refine own_newP Y3102 hx hZ (own_w hw 99 rfl) rfl (hb hby d26_32) rfl (by decide) (nz := 4) (cap := 4) (by decide) (by decide) (by decide) (by decide) (by decide) (ty := .int) rfl (fun T3106 h3108 b3111 eb3112 Y3107 E3109 A3110 => ?_)
  have f3113 := f3094.wr W3104
  have ne3114 : r0 ≠ b3111 := Nat.ne_of_lt (by rw [eb3112]; exact f3113.lt)
  have f3115 := f3087.ext E3080
  have f3116 := f3115.other W3104 (Ne.symm ne3034)
  have ne3117 : b3032 ≠ b3111 := Nat.ne_of_lt (by rw [eb3112]; exact f3116.lt)
  have f3118 := f3089.ext E3080
  have f3119 := f3118.other W3104 (Ne.symm ne3059)
  have ne3120 : b3056 ≠ b3111 := Nat.ne_of_lt (by rw [eb3112]; exact f3119.lt)
  have f3121 := A3081.other W3104 (Ne.symm ne3085)
  have ne3122 : b3082 ≠ b3111 := Nat.ne_of_lt (by rw [eb3112]; exact f3121.lt)
  have z3124 : n0 ≤ h3079.size := Nat.le_trans z3093 E3080.1
  have z3125 : n0 ≤ h3103.size := Nat.le_trans z3124 (Nat.le_of_eq W3104.size.symm)
  have g3123 : n0 ≤ b3111 := by rw [eb3112]; exact z3125
  replace A3110 : own_A Z h3108 b3111 .int [(.int 0), (.int 0), (.int 0), (.int 0)] := A3110
  show own_Ends _ _ _ _ (T3106.setTop (mkF m 34 #[rv r0, iv 4, iv x2] [(.ref b3111), (.ref r0)]))
  have f3126 := f3113.ext E3109
  have f3127 := Fc_touched.ext E3030
  have f3128 := own_sn f3127 W3041 (own_wf hw 222 rfl) (own_wf hw 214 rfl) (by decide) own_f3 own_f3
  have f3129 := own_sn f3128 W3049 (own_wf hw 222 rfl) (own_wf hw 216 rfl) (by decide) own_f3 own_f1
  have f3130 := f3129.ext E3054
  have f3131 := own_sn f3130 W3075 (own_wf hw 222 rfl) (own_wf hw 218 rfl) (by decide) own_f3 own_f3
  have f3132 := f3131.ext E3080
  have f3133 := own_sn f3132 W3104 (own_wf hw 222 rfl) (own_wf hw 220 rfl) (by decide) own_f3 own_f3
  have f3134 := f3133.ext E3109
  refine p_putF Y3107 hx hZ hown (host := "") (Or.inl (own_w hw 221 rfl)) Via.refl f3134 f3126 (Or.inr ⟨(own_w hw 222 rfl), rfl, hnm⟩) (own_w hw 207 rfl) g (ty := (.array .int)) (by decide) rfl rfl hby rfl d26_34 (fun T3135 h3137 Y3136 W3138 F3139 => ?_)
  have K3140 : Keep h0 h3029 [r0] := (Keep.refl h0 [r0]).ext E3030
  have K3141 : Keep h0 h3040 [r0] := K3140.wr W3041 (Or.inl (List.mem_of_getElem? (i := 0) rfl))
  have K3142 : Keep h0 h3048 [r0] := K3141.wr W3049 (Or.inl (List.mem_of_getElem? (i := 0) rfl))
  have K3143 : Keep h0 h3053 [r0] := K3142.ext E3054
  have K3144 : Keep h0 h3074 [r0] := K3143.wr W3075 (Or.inl (List.mem_of_getElem? (i := 0) rfl))
  have K3145 : Keep h0 h3079 [r0] := K3144.ext E3080
  have K3146 : Keep h0 h3103 [r0] := K3145.wr W3104 (Or.inl (List.mem_of_getElem? (i := 0) rfl))
  have K3147 : Keep h0 h3108 [r0] := K3146.ext E3109
  have K3148 : Keep h0 h3137 [r0] := K3147.wr W3138 (Or.inl (List.mem_of_getElem? (i := 0) rfl))
  have f3149 := f3126.wr W3138
  have f3150 := own_sn F3042 W3049 (own_wf hw 214 rfl) (own_wf hw 216 rfl) (by decide) own_f3 own_f1
  have f3151 := f3150.ext E3054
  have f3152 := own_sn f3151 W3075 (own_wf hw 214 rfl) (own_wf hw 218 rfl) (by decide) own_f3 own_f3
  have f3153 := f3152.ext E3080
  have f3154 := own_sn f3153 W3104 (own_wf hw 214 rfl) (own_wf hw 220 rfl) (by decide) own_f3 own_f3
  have f3155 := f3154.ext E3109
  have f3156 := own_sn f3155 W3138 (own_wf hw 214 rfl) (own_wf hw 222 rfl) (by decide) own_f3 own_f3
  have f3157 := Fc_graph.ext E3030
  have f3158 := own_sn f3157 W3041 (own_wl hw 229 rfl) (own_wf hw 214 rfl) (by decide) own_f10 own_f3
  have f3159 := own_sn f3158 W3049 (own_wl hw 229 rfl) (own_wf hw 216 rfl) (by decide) own_f10 own_f1
  have f3160 := f3159.ext E3054
  have f3161 := own_sn f3160 W3075 (own_wl hw 229 rfl) (own_wf hw 218 rfl) (by decide) own_f10 own_f3
  have f3162 := f3161.ext E3080
  have f3163 := own_sn f3162 W3104 (own_wl hw 229 rfl) (own_wf hw 220 rfl) (by decide) own_f10 own_f3
  have f3164 := f3163.ext E3109
  have f3165 := own_sn f3164 W3138 (own_wl hw 229 rfl) (own_wf hw 222 rfl) (by decide) own_f10 own_f3
  have f3166 := Fc_cellOf.ext E3030
  have f3167 := own_sn f3166 W3041 (own_wl hw 232 rfl) (own_wf hw 214 rfl) (by decide) own_f3 own_f3
  have f3168 := own_sn f3167 W3049 (own_wl hw 232 rfl) (own_wf hw 216 rfl) (by decide) own_f3 own_f1
  have f3169 := f3168.ext E3054
  have f3170 := own_sn f3169 W3075 (own_wl hw 232 rfl) (own_wf hw 218 rfl) (by decide) own_f3 own_f3
  have f3171 := f3170.ext E3080
  have f3172 := own_sn f3171 W3104 (own_wl hw 232 rfl) (own_wf hw 220 rfl) (by decide) own_f3 own_f3
  have f3173 := f3172.ext E3109
  have f3174 := own_sn f3173 W3138 (own_wl hw 232 rfl) (own_wf hw 222 rfl) (by decide) own_f3 own_f3
  have f3175 := Fc_degree.ext E3030
  have f3176 := own_sn f3175 W3041 (own_wl hw 234 rfl) (own_wf hw 214 rfl) (by decide) own_f3 own_f3
  have f3177 := own_sn f3176 W3049 (own_wl hw 234 rfl) (own_wf hw 216 rfl) (by decide) own_f3 own_f1
  have f3178 := f3177.ext E3054
  have f3179 := own_sn f3178 W3075 (own_wl hw 234 rfl) (own_wf hw 218 rfl) (by decide) own_f3 own_f3
  have f3180 := f3179.ext E3080
  have f3181 := own_sn f3180 W3104 (own_wl hw 234 rfl) (own_wf hw 220 rfl) (by decide) own_f3 own_f3
  have f3182 := f3181.ext E3109
  have f3183 := own_sn f3182 W3138 (own_wl hw 234 rfl) (own_wf hw 222 rfl) (by decide) own_f3 own_f3
  have f3184 := Fc_outside.ext E3030
  have f3185 := own_sn f3184 W3041 (own_wl hw 236 rfl) (own_wf hw 214 rfl) (by decide) own_f3 own_f3
  have f3186 := own_sn f3185 W3049 (own_wl hw 236 rfl) (own_wf hw 216 rfl) (by decide) own_f3 own_f1
  have f3187 := f3186.ext E3054
  have f3188 := own_sn f3187 W3075 (own_wl hw 236 rfl) (own_wf hw 218 rfl) (by decide) own_f3 own_f3
  have f3189 := f3188.ext E3080
  have f3190 := own_sn f3189 W3104 (own_wl hw 236 rfl) (own_wf hw 220 rfl) (by decide) own_f3 own_f3
  have f3191 := f3190.ext E3109
  have f3192 := own_sn f3191 W3138 (own_wl hw 236 rfl) (own_wf hw 222 rfl) (by decide) own_f3 own_f3
  have f3193 := Fc_boundary.ext E3030
  have f3194 := own_sn f3193 W3041 (own_wl hw 239 rfl) (own_wf hw 214 rfl) (by decide) own_f0 own_f3
  have f3195 := own_sn f3194 W3049 (own_wl hw 239 rfl) (own_wf hw 216 rfl) (by decide) own_f0 own_f1
  have f3196 := f3195.ext E3054
  have f3197 := own_sn f3196 W3075 (own_wl hw 239 rfl) (own_wf hw 218 rfl) (by decide) own_f0 own_f3
  have f3198 := f3197.ext E3080
  have f3199 := own_sn f3198 W3104 (own_wl hw 239 rfl) (own_wf hw 220 rfl) (by decide) own_f0 own_f3
  have f3200 := f3199.ext E3109
  have f3201 := own_sn f3200 W3138 (own_wl hw 239 rfl) (own_wf hw 222 rfl) (by decide) own_f0 own_f3
  have f3202 := Fc_quiet.ext E3030
  have f3203 := own_sn f3202 W3041 (own_wl hw 241 rfl) (own_wf hw 214 rfl) (by decide) own_f0 own_f3
  have f3204 := own_sn f3203 W3049 (own_wl hw 241 rfl) (own_wf hw 216 rfl) (by decide) own_f0 own_f1
  have f3205 := f3204.ext E3054
  have f3206 := own_sn f3205 W3075 (own_wl hw 241 rfl) (own_wf hw 218 rfl) (by decide) own_f0 own_f3
  have f3207 := f3206.ext E3080
  have f3208 := own_sn f3207 W3104 (own_wl hw 241 rfl) (own_wf hw 220 rfl) (by decide) own_f0 own_f3
  have f3209 := f3208.ext E3109
  have f3210 := own_sn f3209 W3138 (own_wl hw 241 rfl) (own_wf hw 222 rfl) (by decide) own_f0 own_f3
  have f3211 := f3116.ext E3109
  have f3212 := f3211.other W3138 (Ne.symm ne3034)
  refine own_retV Y3136 hx hlk hret (hb hby d26_37) (by decide) (by decide) ?_
  exact ⟨_, rfl, K3148, f3149, f3156, f3165, f3174, f3183, f3192, f3201, f3210, f3212, (by rw [eb3033]; exact (Keep.refl h0 [r0]).1)⟩
theorem own_ok4 {sl : List Int32} {y : Int32} (hl : sl.length = 4) (hy : 0 ≤ y.toInt ∧ y.toInt ≤ 3) : own_okb sl y = true :=
  decide_eq_true (show 0 ≤ y.toInt ∧ y.toInt < (sl.length : Int) from ⟨hy.1, by rw [hl]; omega⟩)
theorem own_fgt4 {Z : State} {h : Heap} {b : Addr} {sl : List Int32} {j : Nat} {x : Int32} (hl : sl.length = 4) (A : own_A Z h b .int ((sl.map Value.int).set j (.int x))) : ∃ q : List Int32, q.length = 4 ∧ own_A Z h b .int (q.map Value.int) :=
  ⟨sl.set j x, by simp [hl], by rw [List.map_set]; exact A⟩
def own_ok3 (j : Int32) : Bool := decide (0 ≤ j.toInt ∧ j.toInt < 3)
theorem own_ok3n (cl : List Int32) (hl : cl.length = 3) {j : Int32} (h : own_ok3 j = true) : ¬ j < 0 ∧ j.toNatClampNeg < cl.length := by
  have q : 0 ≤ j.toInt ∧ j.toInt < 3 := of_decide_eq_true h
  rw [hl]; exact own_idx (n := 3) q.1 (by omega)
theorem own_one {mm i : Nat} (h : i < mm) : ((List.replicate mm (1 : Int32)).map Value.int)[i]? = some (.int 1) := by simp [h]
def own_k2 (nb : List Int32) : Nat → Nat → Bool
  | 0, _ => true
  | f + 1, i => decide (i < nb.length ∧ own_ok3 (own_g nb i) = true) && own_k2 nb f (i + 1)
theorem own_k2_inv {nb : List Int32} {f i : Nat} (h : own_k2 nb (f + 1) i = true) : i < nb.length ∧ own_ok3 (own_g nb i) = true ∧ own_k2 nb f (i + 1) = true := by
  have q : (decide (i < nb.length ∧ own_ok3 (own_g nb i) = true) && own_k2 nb f (i + 1)) = true := h
  rw [Bool.and_eq_true] at q
  exact ⟨(of_decide_eq_true q.1).1, (of_decide_eq_true q.1).2, q.2⟩
def own_o2 (cl nb : List Int32) (c : Int32) (i : Nat) (o : Int32) : Int32 := if own_at cl (own_g nb i) = c then o else o + 1
theorem own_o2_pos {cl nb : List Int32} {c : Int32} {i : Nat} {o : Int32} (h : own_at cl (own_g nb i) = c) : own_o2 cl nb c i o = o := if_pos h
theorem own_o2_neg {cl nb : List Int32} {c : Int32} {i : Nat} {o : Int32} (h : ¬ own_at cl (own_g nb i) = c) : own_o2 cl nb c i o = o + 1 := if_neg h
def own_v2 (cl nb : List Int32) (c : Int32) : Nat → Nat → Int32 → Int32
  | 0, _, o => o
  | f + 1, i, o => own_v2 cl nb c f (i + 1) (own_o2 cl nb c i o)
theorem own_v2_0 {cl nb : List Int32} {c o R : Int32} {i : Nat} (h : own_v2 cl nb c 0 i o = R) : o = R := h
theorem own_v2_s {cl nb : List Int32} {c o R : Int32} {f i : Nat} (h : own_v2 cl nb c (f + 1) i o = R) : own_v2 cl nb c f (i + 1) (own_o2 cl nb c i o) = R := h
def bc27 : ByteArray := prog_81_method_2_code
theorem d27_0 : decode bc27 0 = .ok (.aload_n 0, 1) := by decide +kernel
theorem d27_1 : decode bc27 1 = .ok (.getfield 26, 3) := by decide +kernel
theorem d27_4 : decode bc27 4 = .ok (.ifnonnull 34, 3) := by decide +kernel
theorem d27_7 : decode bc27 7 = .ok (.iconst 0, 1) := by decide +kernel
theorem d27_8 : decode bc27 8 = .ok (.istore_n 3, 1) := by decide +kernel
theorem d27_9 : decode bc27 9 = .ok (.iload_n 3, 1) := by decide +kernel
theorem d27_10 : decode bc27 10 = .ok (.aload_n 2, 1) := by decide +kernel
theorem d27_11 : decode bc27 11 = .ok (.arraylength, 1) := by decide +kernel
theorem d27_12 : decode bc27 12 = .ok (.if_icmp .ge 26, 3) := by decide +kernel
theorem d27_15 : decode bc27 15 = .ok (.aload_n 0, 1) := by decide +kernel
theorem d27_16 : decode bc27 16 = .ok (.getfield 7, 3) := by decide +kernel
theorem d27_19 : decode bc27 19 = .ok (.aload_n 2, 1) := by decide +kernel
theorem d27_20 : decode bc27 20 = .ok (.iload_n 3, 1) := by decide +kernel
theorem d27_21 : decode bc27 21 = .ok (.iaload, 1) := by decide +kernel
theorem d27_22 : decode bc27 22 = .ok (.dup2, 1) := by decide +kernel
theorem d27_23 : decode bc27 23 = .ok (.iaload, 1) := by decide +kernel
theorem d27_24 : decode bc27 24 = .ok (.aload_n 1, 1) := by decide +kernel
theorem d27_25 : decode bc27 25 = .ok (.getfield 30, 3) := by decide +kernel
theorem d27_28 : decode bc27 28 = .ok (.iload_n 3, 1) := by decide +kernel
theorem d27_29 : decode bc27 29 = .ok (.iaload, 1) := by decide +kernel
theorem d27_30 : decode bc27 30 = .ok (.iadd, 1) := by decide +kernel
theorem d27_31 : decode bc27 31 = .ok (.iastore, 1) := by decide +kernel
theorem d27_32 : decode bc27 32 = .ok (.iinc 3 1, 3) := by decide +kernel
theorem d27_35 : decode bc27 35 = .ok (.goto (-26), 3) := by decide +kernel
theorem d27_38 : decode bc27 38 = .ok (.aload_n 0, 1) := by decide +kernel
theorem d27_39 : decode bc27 39 = .ok (.aload_n 1, 1) := by decide +kernel
theorem d27_40 : decode bc27 40 = .ok (.putfield 26, 3) := by decide +kernel
theorem d27_43 : decode bc27 43 = .ok (.aload_n 0, 1) := by decide +kernel
theorem d27_44 : decode bc27 44 = .ok (.aload_n 2, 1) := by decide +kernel
theorem d27_45 : decode bc27 45 = .ok (.putfield 35, 3) := by decide +kernel
theorem d27_48 : decode bc27 48 = .ok (.aload_n 0, 1) := by decide +kernel
theorem d27_49 : decode bc27 49 = .ok (.aload_n 2, 1) := by decide +kernel
theorem d27_50 : decode bc27 50 = .ok (.arraylength, 1) := by decide +kernel
theorem d27_51 : decode bc27 51 = .ok (.newarray .int, 2) := by decide +kernel
theorem d27_53 : decode bc27 53 = .ok (.putfield 38, 3) := by decide +kernel
theorem d27_56 : decode bc27 56 = .ok (.aload_n 0, 1) := by decide +kernel
theorem d27_57 : decode bc27 57 = .ok (.aload_n 2, 1) := by decide +kernel
theorem d27_58 : decode bc27 58 = .ok (.arraylength, 1) := by decide +kernel
theorem d27_59 : decode bc27 59 = .ok (.newarray .int, 2) := by decide +kernel
theorem d27_61 : decode bc27 61 = .ok (.putfield 41, 3) := by decide +kernel
theorem d27_64 : decode bc27 64 = .ok (.aload_n 0, 1) := by decide +kernel
theorem d27_65 : decode bc27 65 = .ok (.aload_n 2, 1) := by decide +kernel
theorem d27_66 : decode bc27 66 = .ok (.arraylength, 1) := by decide +kernel
theorem d27_67 : decode bc27 67 = .ok (.bipush 63, 2) := by decide +kernel
theorem d27_69 : decode bc27 69 = .ok (.iadd, 1) := by decide +kernel
theorem d27_70 : decode bc27 70 = .ok (.bipush 6, 2) := by decide +kernel
theorem d27_72 : decode bc27 72 = .ok (.ishr, 1) := by decide +kernel
theorem d27_73 : decode bc27 73 = .ok (.newarray .long, 2) := by decide +kernel
theorem d27_75 : decode bc27 75 = .ok (.putfield 44, 3) := by decide +kernel
theorem d27_78 : decode bc27 78 = .ok (.aload_n 0, 1) := by decide +kernel
theorem d27_79 : decode bc27 79 = .ok (.aload_n 0, 1) := by decide +kernel
theorem d27_80 : decode bc27 80 = .ok (.getfield 44, 3) := by decide +kernel
theorem d27_83 : decode bc27 83 = .ok (.arraylength, 1) := by decide +kernel
theorem d27_84 : decode bc27 84 = .ok (.newarray .long, 2) := by decide +kernel
theorem d27_86 : decode bc27 86 = .ok (.putfield 48, 3) := by decide +kernel
theorem d27_89 : decode bc27 89 = .ok (.aload_n 1, 1) := by decide +kernel
theorem d27_90 : decode bc27 90 = .ok (.getfield 51, 3) := by decide +kernel
theorem d27_93 : decode bc27 93 = .ok (.astore_n 3, 1) := by decide +kernel
theorem d27_94 : decode bc27 94 = .ok (.aload_n 1, 1) := by decide +kernel
theorem d27_95 : decode bc27 95 = .ok (.getfield 54, 3) := by decide +kernel
theorem d27_98 : decode bc27 98 = .ok (.astore 4, 2) := by decide +kernel
theorem d27_100 : decode bc27 100 = .ok (.aload_n 1, 1) := by decide +kernel
theorem d27_101 : decode bc27 101 = .ok (.getfield 57, 3) := by decide +kernel
theorem d27_104 : decode bc27 104 = .ok (.astore 5, 2) := by decide +kernel
theorem d27_106 : decode bc27 106 = .ok (.iconst 0, 1) := by decide +kernel
theorem d27_107 : decode bc27 107 = .ok (.istore 6, 2) := by decide +kernel
theorem d27_109 : decode bc27 109 = .ok (.iload 6, 2) := by decide +kernel
theorem d27_111 : decode bc27 111 = .ok (.aload_n 2, 1) := by decide +kernel
theorem d27_112 : decode bc27 112 = .ok (.arraylength, 1) := by decide +kernel
theorem d27_113 : decode bc27 113 = .ok (.if_icmp .ge 116, 3) := by decide +kernel
theorem d27_116 : decode bc27 116 = .ok (.aload_n 2, 1) := by decide +kernel
theorem d27_117 : decode bc27 117 = .ok (.iload 6, 2) := by decide +kernel
theorem d27_119 : decode bc27 119 = .ok (.iaload, 1) := by decide +kernel
theorem d27_120 : decode bc27 120 = .ok (.istore 7, 2) := by decide +kernel
theorem d27_122 : decode bc27 122 = .ok (.iconst 0, 1) := by decide +kernel
theorem d27_123 : decode bc27 123 = .ok (.istore 8, 2) := by decide +kernel
theorem d27_125 : decode bc27 125 = .ok (.iconst 0, 1) := by decide +kernel
theorem d27_126 : decode bc27 126 = .ok (.istore 9, 2) := by decide +kernel
theorem d27_128 : decode bc27 128 = .ok (.aload_n 3, 1) := by decide +kernel
theorem d27_129 : decode bc27 129 = .ok (.iload 6, 2) := by decide +kernel
theorem d27_131 : decode bc27 131 = .ok (.iaload, 1) := by decide +kernel
theorem d27_132 : decode bc27 132 = .ok (.istore 10, 2) := by decide +kernel
theorem d27_134 : decode bc27 134 = .ok (.iload 10, 2) := by decide +kernel
theorem d27_136 : decode bc27 136 = .ok (.aload_n 3, 1) := by decide +kernel
theorem d27_137 : decode bc27 137 = .ok (.iload 6, 2) := by decide +kernel
theorem d27_139 : decode bc27 139 = .ok (.iconst 1, 1) := by decide +kernel
theorem d27_140 : decode bc27 140 = .ok (.iadd, 1) := by decide +kernel
theorem d27_141 : decode bc27 141 = .ok (.iaload, 1) := by decide +kernel
theorem d27_142 : decode bc27 142 = .ok (.if_icmp .ge 41, 3) := by decide +kernel
theorem d27_145 : decode bc27 145 = .ok (.iload 8, 2) := by decide +kernel
theorem d27_147 : decode bc27 147 = .ok (.aload 5, 2) := by decide +kernel
theorem d27_149 : decode bc27 149 = .ok (.iload 10, 2) := by decide +kernel
theorem d27_151 : decode bc27 151 = .ok (.iaload, 1) := by decide +kernel
theorem d27_152 : decode bc27 152 = .ok (.iadd, 1) := by decide +kernel
theorem d27_153 : decode bc27 153 = .ok (.istore 8, 2) := by decide +kernel
theorem d27_155 : decode bc27 155 = .ok (.aload_n 2, 1) := by decide +kernel
theorem d27_156 : decode bc27 156 = .ok (.aload 4, 2) := by decide +kernel
theorem d27_158 : decode bc27 158 = .ok (.iload 10, 2) := by decide +kernel
theorem d27_160 : decode bc27 160 = .ok (.iaload, 1) := by decide +kernel
theorem d27_161 : decode bc27 161 = .ok (.iaload, 1) := by decide +kernel
theorem d27_162 : decode bc27 162 = .ok (.iload 7, 2) := by decide +kernel
theorem d27_164 : decode bc27 164 = .ok (.if_icmp .eq 13, 3) := by decide +kernel
theorem d27_177 : decode bc27 177 = .ok (.iinc 10 1, 3) := by decide +kernel
theorem d27_180 : decode bc27 180 = .ok (.goto (-46), 3) := by decide +kernel
theorem d27_167 : decode bc27 167 = .ok (.iload 9, 2) := by decide +kernel
theorem d27_169 : decode bc27 169 = .ok (.aload 5, 2) := by decide +kernel
theorem d27_171 : decode bc27 171 = .ok (.iload 10, 2) := by decide +kernel
theorem d27_173 : decode bc27 173 = .ok (.iaload, 1) := by decide +kernel
theorem d27_174 : decode bc27 174 = .ok (.iadd, 1) := by decide +kernel
theorem d27_175 : decode bc27 175 = .ok (.istore 9, 2) := by decide +kernel
theorem d27_183 : decode bc27 183 = .ok (.aload_n 0, 1) := by decide +kernel
theorem d27_184 : decode bc27 184 = .ok (.getfield 38, 3) := by decide +kernel
theorem d27_187 : decode bc27 187 = .ok (.iload 6, 2) := by decide +kernel
theorem d27_189 : decode bc27 189 = .ok (.iload 8, 2) := by decide +kernel
theorem d27_191 : decode bc27 191 = .ok (.iastore, 1) := by decide +kernel
theorem d27_192 : decode bc27 192 = .ok (.aload_n 0, 1) := by decide +kernel
theorem d27_193 : decode bc27 193 = .ok (.getfield 41, 3) := by decide +kernel
theorem d27_196 : decode bc27 196 = .ok (.iload 6, 2) := by decide +kernel
theorem d27_198 : decode bc27 198 = .ok (.iload 9, 2) := by decide +kernel
theorem d27_200 : decode bc27 200 = .ok (.iastore, 1) := by decide +kernel
theorem d27_223 : decode bc27 223 = .ok (.iinc 6 1, 3) := by decide +kernel
theorem d27_226 : decode bc27 226 = .ok (.goto (-117), 3) := by decide +kernel
theorem d27_229 : decode bc27 229 = .ok (.return_, 1) := by decide +kernel
theorem d27_201 : decode bc27 201 = .ok (.iload 9, 2) := by decide +kernel
theorem d27_203 : decode bc27 203 = .ok (.ifCond .le 20, 3) := by decide +kernel
theorem d27_206 : decode bc27 206 = .ok (.aload_n 0, 1) := by decide +kernel
theorem d27_207 : decode bc27 207 = .ok (.getfield 44, 3) := by decide +kernel
theorem d27_210 : decode bc27 210 = .ok (.iload 6, 2) := by decide +kernel
theorem d27_212 : decode bc27 212 = .ok (.bipush 6, 2) := by decide +kernel
theorem d27_214 : decode bc27 214 = .ok (.ishr, 1) := by decide +kernel
theorem d27_215 : decode bc27 215 = .ok (.dup2, 1) := by decide +kernel
theorem d27_216 : decode bc27 216 = .ok (.laload, 1) := by decide +kernel
theorem d27_217 : decode bc27 217 = .ok (.lconst 1, 1) := by decide +kernel
theorem d27_218 : decode bc27 218 = .ok (.iload 6, 2) := by decide +kernel
theorem d27_220 : decode bc27 220 = .ok (.lshl, 1) := by decide +kernel
theorem d27_221 : decode bc27 221 = .ok (.lor, 1) := by decide +kernel
theorem d27_222 : decode bc27 222 = .ok (.lastore, 1) := by decide +kernel
theorem own_ef_own_rm27 (m : MethodId) (r0 : Addr) (r1 : Addr) (r2 : Addr) : entryFrame m #[(.ref r0), (.ref r1), (.ref r2)] 11 = mkF m 0 #[rv r0, rv r1, rv r2, .unset, .unset, .unset, .unset, .unset, .unset, .unset, .unset] [] := by first | (simp [entryFrame, mkF, argsToLocals, Value.category]; done) | rfl
def own_Q_own_rm27 (Z : State) (r0 : Addr) (nb : List Int32) (y0 y1 y2 : Int32) (w0 w1 w2 : Nat) (h0 : Heap) (n0 : Nat) (v : Option Value) (h : Heap) : Prop := ∃ oa : Addr, v = none ∧ n0 ≤ h.size ∧ Exa Z h r0 "kombos/query/CellRefinement" ∧ Fld Z h r0 "kombos/query/CellRefinement" "outside" "[I" (.ref oa) ∧ own_A Z h oa .int [(.int (own_v2 [y0, y1, y2] nb y0 (w0 - 0) 0 0)), (.int (own_v2 [y0, y1, y2] nb y1 (w1 - w0) w0 0)), (.int (own_v2 [y0, y1, y2] nb y2 (w2 - w1) w1 0))]
set_option maxRecDepth 65536 in
set_option maxHeartbeats 40000000 in
theorem own_rm27 (l : Launch) (Z : State) (a0 : Array Value) (hw : ∀ d ∈ tables_1, d.before a0 Z = true) (ws : List Jvm.Cond) (r0 : Addr) (r1 : Addr) (r2 : Addr) (sz es nba ewa vwa : Addr) (sl nb : List Int32) (y0 y1 y2 u0 u1 u2 : Int32) (w0 w1 w2 mm2 : Nat) (h0 : Heap) (n0 : Nat) (Z0 : n0 ≤ h0.size) (Ec : Exa Z h0 r0 "kombos/query/CellRefinement") (Fc_size : Fld Z h0 r0 "kombos/query/CellRefinement" "size" "[I" (.ref sz)) (Fc_graph : Fld Z h0 r0 "kombos/query/CellRefinement" "graph" "Lkombos/query/SimpleGraph;" .null) (Fc_cellOf : Fld Z h0 r0 "kombos/query/CellRefinement" "cellOf" "[I" .null) (Fc_degree : Fld Z h0 r0 "kombos/query/CellRefinement" "degree" "[I" .null) (Fc_outside : Fld Z h0 r0 "kombos/query/CellRefinement" "outside" "[I" .null) (Fc_boundary : Fld Z h0 r0 "kombos/query/CellRefinement" "boundary" "[J" .null) (Fc_quiet : Fld Z h0 r0 "kombos/query/CellRefinement" "quiet" "[J" .null) (Eg : Exa Z h0 r1 "kombos/query/SimpleGraph") (Fg_edgeStart : Fld Z h0 r1 "kombos/query/SimpleGraph" "edgeStart" "[I" (.ref es)) (Fg_neighbour : Fld Z h0 r1 "kombos/query/SimpleGraph" "neighbour" "[I" (.ref nba)) (Fg_edgeWeight : Fld Z h0 r1 "kombos/query/SimpleGraph" "edgeWeight" "[I" (.ref ewa)) (Fg_vertexWeight : Fld Z h0 r1 "kombos/query/SimpleGraph" "vertexWeight" "[I" (.ref vwa)) (Az : own_A Z h0 sz .int (sl.map Value.int)) (Ay : own_A Z h0 r2 .int [(.int y0), (.int y1), (.int y2)]) (Ae : own_A Z h0 es .int [(.int 0), (.int u0), (.int u1), (.int u2)]) (An : own_A Z h0 nba .int (nb.map Value.int)) (Aw : own_A Z h0 ewa .int ((List.replicate mm2 (1 : Int32)).map Value.int)) (Av : own_A Z h0 vwa .int [(.int 1), (.int 1), (.int 1)]) (hsl : sl.length = 4) (hy0 : 0 ≤ y0.toInt ∧ y0.toInt ≤ 3) (hu0 : u0.toInt = (w0 : Int)) (hy1 : 0 ≤ y1.toInt ∧ y1.toInt ≤ 3) (hu1 : u1.toInt = (w1 : Int)) (hy2 : 0 ≤ y2.toInt ∧ y2.toInt ≤ 3) (hu2 : u2.toInt = (w2 : Int)) (ho1 : w0 ≤ w1) (ho2 : w1 ≤ w2) (ho6 : w2 ≤ 6) (HC0 : own_k2 nb (w0 - 0) 0 = true) (HC1 : own_k2 nb (w1 - w0) w0 = true) (HC2 : own_k2 nb (w2 - w1) w1 = true) (hbm : nb.length = mm2) (g : n0 ≤ r0) (gz : n0 ≤ sz) (nr1r0 : r1 ≠ r0) (nr1sz : r1 ≠ sz) (nr2r0 : r2 ≠ r0) (nr2sz : r2 ≠ sz) (nesr0 : es ≠ r0) (nessz : es ≠ sz) (nnbar0 : nba ≠ r0) (nnbasz : nba ≠ sz) (newar0 : ewa ≠ r0) (newasz : ewa ≠ sz) (nvwar0 : vwa ≠ r0) (nvwasz : vwa ≠ sz) (nszr0 : sz ≠ r0) :
    own_Con l Z (⟨"kombos/query/CellRefinement", "start", "(Lkombos/query/SimpleGraph;[I)V"⟩ : MethodName) prog_81_method_2_code 11 none ws ({ frames := 0, cells := 4, slots := 8, locals := 0 } : Room) #[(.ref r0), (.ref r1), (.ref r2)] h0 n0 (own_Q_own_rm27 Z r0 nb y0 y1 y2 w0 w1 w2 h0 n0) := by
  refine own_body (plainFor_of_name own_pn6) ?_
  intro p e s m below meth c T0 hx hZ hby hml hown hnm hret hlk Y0
  replace hown : s.vm.findClass "kombos/query/CellRefinement" = some m.cls := hown
  replace hnm : meth.name = "start" := hnm
  rw [own_ef_own_rm27 m r0 r1 r2]
  show own_Ends _ _ _ _ (T0.setTop (mkF m 0 #[rv r0, rv r1, rv r2, .unset, .unset, .unset, .unset, .unset, .unset, .unset, .unset] []))
  refine o_aloadN Y0 hx hby d27_0 rfl rfl ?_
  refine p_getF Y0 hx hZ hown (host := "") (Or.inl (own_w hw 228 rfl)) Via.refl Fc_graph hby rfl d27_1 (fun T3213 Y3214 => ?_)
  refine o_ifnonnullNo Y3214 hx hby d27_4 rfl ?_
  refine o_iconst Y3214 hx hby d27_7 (x := 0) rfl ?_
  refine o_istoreN Y3214 hx hby d27_8 rfl (l' := #[rv r0, rv r1, rv r2, iv 0, .unset, .unset, .unset, .unset, .unset, .unset, .unset]) rfl ?_
  refine o_iloadN Y3214 hx hby d27_9 rfl ?_
  refine o_aloadN Y3214 hx hby d27_10 rfl rfl ?_
  refine p_len Y3214 hx hZ Ay (z := (3 : Int32)) rfl hby rfl d27_11 ?_
  refine o_icmpNo Y3214 hx hby d27_12 rfl (XT.ii_ge_f (by decide)) ?_
  refine o_aloadN Y3214 hx hby d27_15 rfl rfl ?_
  refine p_getF Y3214 hx hZ hown (host := "") (Or.inl (own_w hw 213 rfl)) Via.refl Fc_size hby rfl d27_16 (fun T3215 Y3216 => ?_)
  refine o_aloadN Y3216 hx hby d27_19 rfl rfl ?_
  refine o_iloadN Y3216 hx hby d27_20 rfl ?_
  refine p_ldI Y3216 hx hZ Ay (i := 0) (by decide) (by decide) (Nat.le_of_ble_eq_true rfl) (v := (.int y0)) rfl hby rfl d27_21 ?_
  refine o_dup2 Y3216 hx hby d27_22 rfl rfl rfl ?_
  refine p_ldI Y3216 hx hZ Az (i := (y0).toNatClampNeg) (own_okn (own_ok4 hsl hy0)).1 rfl (own_mlen (own_okn (own_ok4 hsl hy0)).2) (v := (.int (own_at sl y0))) (own_mget (own_mlen (own_okn (own_ok4 hsl hy0)).2)) hby rfl d27_23 ?_
  refine o_aloadN Y3216 hx hby d27_24 rfl rfl ?_
  refine p_getF Y3216 hx hZ hown (host := "") (Or.inl (own_w hw 230 rfl)) Via.refl Fg_vertexWeight hby rfl d27_25 (fun T3217 Y3218 => ?_)
  refine o_iloadN Y3218 hx hby d27_28 rfl ?_
  refine p_ldI Y3218 hx hZ Av (i := 0) (by decide) (by decide) (Nat.le_of_ble_eq_true rfl) (v := (.int 1)) rfl hby rfl d27_29 ?_
  refine o_iadd Y3218 hx hby d27_30 rfl rfl ?_
  refine p_stI Y3218 hx hZ Az gz (i := (y0).toNatClampNeg) (own_okn (own_ok4 hsl hy0)).1 rfl (own_mlen (own_okn (own_ok4 hsl hy0)).2) hby rfl d27_31 (fun T3219 h3221 Y3220 W3222 A3223 => ?_)
  show own_Ends _ _ _ _ (T3219.setTop (mkF m 32 #[rv r0, rv r1, rv r2, iv 0, .unset, .unset, .unset, .unset, .unset, .unset, .unset] []))
  obtain ⟨sl0, hsl0, A3224⟩ := own_fgt4 hsl A3223
  refine o_iinc Y3220 hx hby d27_32 rfl (l' := #[rv r0, rv r1, rv r2, iv 1, .unset, .unset, .unset, .unset, .unset, .unset, .unset]) rfl ?_
  refine o_goto Y3220 hx hby (pc' := 9) d27_35 (by decide) (by decide) ?_
  refine o_iloadN Y3220 hx hby d27_9 rfl ?_
  refine o_aloadN Y3220 hx hby d27_10 rfl rfl ?_
  have f3225 := Ay.other W3222 nr2sz
  refine p_len Y3220 hx hZ f3225 (z := (3 : Int32)) rfl hby rfl d27_11 ?_
  refine o_icmpNo Y3220 hx hby d27_12 rfl (XT.ii_ge_f (by decide)) ?_
  refine o_aloadN Y3220 hx hby d27_15 rfl rfl ?_
  have f3226 := Fc_size.other W3222 (Or.inl (Ne.symm nszr0))
  refine p_getF Y3220 hx hZ hown (host := "") (Or.inl (own_w hw 213 rfl)) Via.refl f3226 hby rfl d27_16 (fun T3227 Y3228 => ?_)
  refine o_aloadN Y3228 hx hby d27_19 rfl rfl ?_
  refine o_iloadN Y3228 hx hby d27_20 rfl ?_
  refine p_ldI Y3228 hx hZ f3225 (i := 1) (by decide) (by decide) (Nat.le_of_ble_eq_true rfl) (v := (.int y1)) rfl hby rfl d27_21 ?_
  refine o_dup2 Y3228 hx hby d27_22 rfl rfl rfl ?_
  refine p_ldI Y3228 hx hZ A3224 (i := (y1).toNatClampNeg) (own_okn (own_ok4 hsl0 hy1)).1 rfl (own_mlen (own_okn (own_ok4 hsl0 hy1)).2) (v := (.int (own_at sl0 y1))) (own_mget (own_mlen (own_okn (own_ok4 hsl0 hy1)).2)) hby rfl d27_23 ?_
  refine o_aloadN Y3228 hx hby d27_24 rfl rfl ?_
  have f3229 := Fg_vertexWeight.other W3222 (Or.inl nr1sz)
  refine p_getF Y3228 hx hZ hown (host := "") (Or.inl (own_w hw 230 rfl)) Via.refl f3229 hby rfl d27_25 (fun T3230 Y3231 => ?_)
  refine o_iloadN Y3231 hx hby d27_28 rfl ?_
  have f3232 := Av.other W3222 nvwasz
  refine p_ldI Y3231 hx hZ f3232 (i := 1) (by decide) (by decide) (Nat.le_of_ble_eq_true rfl) (v := (.int 1)) rfl hby rfl d27_29 ?_
  refine o_iadd Y3231 hx hby d27_30 rfl rfl ?_
  refine p_stI Y3231 hx hZ A3224 gz (i := (y1).toNatClampNeg) (own_okn (own_ok4 hsl0 hy1)).1 rfl (own_mlen (own_okn (own_ok4 hsl0 hy1)).2) hby rfl d27_31 (fun T3233 h3235 Y3234 W3236 A3237 => ?_)
  show own_Ends _ _ _ _ (T3233.setTop (mkF m 32 #[rv r0, rv r1, rv r2, iv 1, .unset, .unset, .unset, .unset, .unset, .unset, .unset] []))
  obtain ⟨sl1, hsl1, A3238⟩ := own_fgt4 hsl0 A3237
  refine o_iinc Y3234 hx hby d27_32 rfl (l' := #[rv r0, rv r1, rv r2, iv 2, .unset, .unset, .unset, .unset, .unset, .unset, .unset]) rfl ?_
  refine o_goto Y3234 hx hby (pc' := 9) d27_35 (by decide) (by decide) ?_
  refine o_iloadN Y3234 hx hby d27_9 rfl ?_
  refine o_aloadN Y3234 hx hby d27_10 rfl rfl ?_
  have f3239 := f3225.other W3236 nr2sz
  refine p_len Y3234 hx hZ f3239 (z := (3 : Int32)) rfl hby rfl d27_11 ?_
  refine o_icmpNo Y3234 hx hby d27_12 rfl (XT.ii_ge_f (by decide)) ?_
  refine o_aloadN Y3234 hx hby d27_15 rfl rfl ?_
  have f3240 := f3226.other W3236 (Or.inl (Ne.symm nszr0))
  refine p_getF Y3234 hx hZ hown (host := "") (Or.inl (own_w hw 213 rfl)) Via.refl f3240 hby rfl d27_16 (fun T3241 Y3242 => ?_)
  refine o_aloadN Y3242 hx hby d27_19 rfl rfl ?_
  refine o_iloadN Y3242 hx hby d27_20 rfl ?_
  refine p_ldI Y3242 hx hZ f3239 (i := 2) (by decide) (by decide) (Nat.le_of_ble_eq_true rfl) (v := (.int y2)) rfl hby rfl d27_21 ?_
  refine o_dup2 Y3242 hx hby d27_22 rfl rfl rfl ?_
  refine p_ldI Y3242 hx hZ A3238 (i := (y2).toNatClampNeg) (own_okn (own_ok4 hsl1 hy2)).1 rfl (own_mlen (own_okn (own_ok4 hsl1 hy2)).2) (v := (.int (own_at sl1 y2))) (own_mget (own_mlen (own_okn (own_ok4 hsl1 hy2)).2)) hby rfl d27_23 ?_
  refine o_aloadN Y3242 hx hby d27_24 rfl rfl ?_
  have f3243 := f3229.other W3236 (Or.inl nr1sz)
  refine p_getF Y3242 hx hZ hown (host := "") (Or.inl (own_w hw 230 rfl)) Via.refl f3243 hby rfl d27_25 (fun T3244 Y3245 => ?_)
  refine o_iloadN Y3245 hx hby d27_28 rfl ?_
  have f3246 := f3232.other W3236 nvwasz
  refine p_ldI Y3245 hx hZ f3246 (i := 2) (by decide) (by decide) (Nat.le_of_ble_eq_true rfl) (v := (.int 1)) rfl hby rfl d27_29 ?_
  refine o_iadd Y3245 hx hby d27_30 rfl rfl ?_
  refine p_stI Y3245 hx hZ A3238 gz (i := (y2).toNatClampNeg) (own_okn (own_ok4 hsl1 hy2)).1 rfl (own_mlen (own_okn (own_ok4 hsl1 hy2)).2) hby rfl d27_31 (fun T3247 h3249 Y3248 W3250 A3251 => ?_)
  show own_Ends _ _ _ _ (T3247.setTop (mkF m 32 #[rv r0, rv r1, rv r2, iv 2, .unset, .unset, .unset, .unset, .unset, .unset, .unset] []))
  obtain ⟨sl2, hsl2, A3252⟩ := own_fgt4 hsl1 A3251
  refine o_iinc Y3248 hx hby d27_32 rfl (l' := #[rv r0, rv r1, rv r2, iv 3, .unset, .unset, .unset, .unset, .unset, .unset, .unset]) rfl ?_
  refine o_goto Y3248 hx hby (pc' := 9) d27_35 (by decide) (by decide) ?_
  refine o_iloadN Y3248 hx hby d27_9 rfl ?_
  refine o_aloadN Y3248 hx hby d27_10 rfl rfl ?_
  have f3253 := f3239.other W3250 nr2sz
  refine p_len Y3248 hx hZ f3253 (z := (3 : Int32)) rfl hby rfl d27_11 ?_
  refine o_icmpYes Y3248 hx hby (pc' := 38) d27_12 rfl (XT.ii_ge_t (by decide)) (by decide) (by decide) ?_
  refine o_aloadN Y3248 hx hby d27_38 rfl rfl ?_
  refine o_aloadN Y3248 hx hby d27_39 rfl rfl ?_
  have f3254 := Ec.wr W3222
  have f3255 := f3254.wr W3236
  have f3256 := f3255.wr W3250
  have f3257 := Fc_graph.other W3222 (Or.inl (Ne.symm nszr0))
  have f3258 := f3257.other W3236 (Or.inl (Ne.symm nszr0))
  have f3259 := f3258.other W3250 (Or.inl (Ne.symm nszr0))
  refine p_putF Y3248 hx hZ hown (host := "") (Or.inl (own_w hw 228 rfl)) Via.refl f3259 f3256 (Or.inl (own_w hw 229 rfl)) (own_w hw 207 rfl) g (ty := (.object "kombos/query/SimpleGraph")) (by decide) rfl rfl hby rfl d27_40 (fun T3260 h3262 Y3261 W3263 F3264 => ?_)
  refine o_aloadN Y3261 hx hby d27_43 rfl rfl ?_
  refine o_aloadN Y3261 hx hby d27_44 rfl rfl ?_
  have f3265 := f3256.wr W3263
  have f3266 := Fc_cellOf.other W3222 (Or.inl (Ne.symm nszr0))
  have f3267 := f3266.other W3236 (Or.inl (Ne.symm nszr0))
  have f3268 := f3267.other W3250 (Or.inl (Ne.symm nszr0))
  have f3269 := own_sn f3268 W3263 (own_wl hw 232 rfl) (own_wl hw 229 rfl) (by decide) own_f3 own_f10
  refine p_putF Y3261 hx hZ hown (host := "") (Or.inl (own_w hw 231 rfl)) Via.refl f3269 f3265 (Or.inl (own_w hw 232 rfl)) (own_w hw 207 rfl) g (ty := (.array .int)) (by decide) rfl rfl hby rfl d27_45 (fun T3270 h3272 Y3271 W3273 F3274 => ?_)
  refine o_aloadN Y3271 hx hby d27_48 rfl rfl ?_
  refine o_aloadN Y3271 hx hby d27_49 rfl rfl ?_
  have f3275 := f3253.other W3263 nr2r0
  have f3276 := f3275.other W3273 nr2r0
  refine p_len Y3271 hx hZ f3276 (z := (3 : Int32)) rfl hby rfl d27_50 ?_
  refine own_newP Y3271 hx hZ (own_w hw 99 rfl) rfl (hb hby d27_51) rfl (by decide) (nz := 3) (cap := 3) (by decide) (by decide) (by decide) (by decide) (by decide) (ty := .int) rfl (fun T3277 h3279 b3282 eb3283 Y3278 E3280 A3281 => ?_)
  have f3284 := f3265.wr W3273
  have ne3285 : r0 ≠ b3282 := Nat.ne_of_lt (by rw [eb3283]; exact f3284.lt)
  have f3286 := Eg.wr W3222
  have f3287 := f3286.wr W3236
  have f3288 := f3287.wr W3250
  have f3289 := f3288.wr W3263
  have f3290 := f3289.wr W3273
  have ne3291 : r1 ≠ b3282 := Nat.ne_of_lt (by rw [eb3283]; exact f3290.lt)
  have f3292 := A3252.other W3263 nszr0
  have f3293 := f3292.other W3273 nszr0
  have ne3294 : sz ≠ b3282 := Nat.ne_of_lt (by rw [eb3283]; exact f3293.lt)
  have ne3295 : r2 ≠ b3282 := Nat.ne_of_lt (by rw [eb3283]; exact f3276.lt)
  have f3296 := Ae.other W3222 nessz
  have f3297 := f3296.other W3236 nessz
  have f3298 := f3297.other W3250 nessz
  have f3299 := f3298.other W3263 nesr0
  have f3300 := f3299.other W3273 nesr0
  have ne3301 : es ≠ b3282 := Nat.ne_of_lt (by rw [eb3283]; exact f3300.lt)
  have f3302 := An.other W3222 nnbasz
  have f3303 := f3302.other W3236 nnbasz
  have f3304 := f3303.other W3250 nnbasz
  have f3305 := f3304.other W3263 nnbar0
  have f3306 := f3305.other W3273 nnbar0
  have ne3307 : nba ≠ b3282 := Nat.ne_of_lt (by rw [eb3283]; exact f3306.lt)
  have f3308 := Aw.other W3222 newasz
  have f3309 := f3308.other W3236 newasz
  have f3310 := f3309.other W3250 newasz
  have f3311 := f3310.other W3263 newar0
  have f3312 := f3311.other W3273 newar0
  have ne3313 : ewa ≠ b3282 := Nat.ne_of_lt (by rw [eb3283]; exact f3312.lt)
  have f3314 := f3246.other W3250 nvwasz
  have f3315 := f3314.other W3263 nvwar0
  have f3316 := f3315.other W3273 nvwar0
  have ne3317 : vwa ≠ b3282 := Nat.ne_of_lt (by rw [eb3283]; exact f3316.lt)
  have z3319 : n0 ≤ h3221.size := Nat.le_trans Z0 (Nat.le_of_eq W3222.size.symm)
  have z3320 : n0 ≤ h3235.size := Nat.le_trans z3319 (Nat.le_of_eq W3236.size.symm)
  have z3321 : n0 ≤ h3249.size := Nat.le_trans z3320 (Nat.le_of_eq W3250.size.symm)
  have z3322 : n0 ≤ h3262.size := Nat.le_trans z3321 (Nat.le_of_eq W3263.size.symm)
  have z3323 : n0 ≤ h3272.size := Nat.le_trans z3322 (Nat.le_of_eq W3273.size.symm)
  have g3318 : n0 ≤ b3282 := by rw [eb3283]; exact z3323
  replace A3281 : own_A Z h3279 b3282 .int [(.int 0), (.int 0), (.int 0)] := A3281
  show own_Ends _ _ _ _ (T3277.setTop (mkF m 53 #[rv r0, rv r1, rv r2, iv 3, .unset, .unset, .unset, .unset, .unset, .unset, .unset] [(.ref b3282), (.ref r0)]))
  have f3324 := f3284.ext E3280
  have f3325 := Fc_degree.other W3222 (Or.inl (Ne.symm nszr0))
  have f3326 := f3325.other W3236 (Or.inl (Ne.symm nszr0))
  have f3327 := f3326.other W3250 (Or.inl (Ne.symm nszr0))
  have f3328 := own_sn f3327 W3263 (own_wl hw 234 rfl) (own_wl hw 229 rfl) (by decide) own_f3 own_f10
  have f3329 := own_sn f3328 W3273 (own_wl hw 234 rfl) (own_wl hw 232 rfl) (by decide) own_f3 own_f3
  have f3330 := f3329.ext E3280
  refine p_putF Y3278 hx hZ hown (host := "") (Or.inl (own_w hw 233 rfl)) Via.refl f3330 f3324 (Or.inl (own_w hw 234 rfl)) (own_w hw 207 rfl) g (ty := (.array .int)) (by decide) rfl rfl hby rfl d27_53 (fun T3331 h3333 Y3332 W3334 F3335 => ?_)
  refine o_aloadN Y3332 hx hby d27_56 rfl rfl ?_
  refine o_aloadN Y3332 hx hby d27_57 rfl rfl ?_
  have f3336 := f3276.ext E3280
  have f3337 := f3336.other W3334 nr2r0
  refine p_len Y3332 hx hZ f3337 (z := (3 : Int32)) rfl hby rfl d27_58 ?_
  refine own_newP Y3332 hx hZ (own_w hw 99 rfl) rfl (hb hby d27_59) rfl (by decide) (nz := 3) (cap := 3) (by decide) (by decide) (by decide) (by decide) (by decide) (ty := .int) rfl (fun T3338 h3340 b3343 eb3344 Y3339 E3341 A3342 => ?_)
  have f3345 := f3324.wr W3334
  have ne3346 : r0 ≠ b3343 := Nat.ne_of_lt (by rw [eb3344]; exact f3345.lt)
  have f3347 := f3290.ext E3280
  have f3348 := f3347.wr W3334
  have ne3349 : r1 ≠ b3343 := Nat.ne_of_lt (by rw [eb3344]; exact f3348.lt)
  have f3350 := f3293.ext E3280
  have f3351 := f3350.other W3334 nszr0
  have ne3352 : sz ≠ b3343 := Nat.ne_of_lt (by rw [eb3344]; exact f3351.lt)
  have ne3353 : r2 ≠ b3343 := Nat.ne_of_lt (by rw [eb3344]; exact f3337.lt)
  have f3354 := f3300.ext E3280
  have f3355 := f3354.other W3334 nesr0
  have ne3356 : es ≠ b3343 := Nat.ne_of_lt (by rw [eb3344]; exact f3355.lt)
  have f3357 := f3306.ext E3280
  have f3358 := f3357.other W3334 nnbar0
  have ne3359 : nba ≠ b3343 := Nat.ne_of_lt (by rw [eb3344]; exact f3358.lt)
  have f3360 := f3312.ext E3280
  have f3361 := f3360.other W3334 newar0
  have ne3362 : ewa ≠ b3343 := Nat.ne_of_lt (by rw [eb3344]; exact f3361.lt)
  have f3363 := f3316.ext E3280
  have f3364 := f3363.other W3334 nvwar0
  have ne3365 : vwa ≠ b3343 := Nat.ne_of_lt (by rw [eb3344]; exact f3364.lt)
  have f3366 := A3281.other W3334 (Ne.symm ne3285)
  have ne3367 : b3282 ≠ b3343 := Nat.ne_of_lt (by rw [eb3344]; exact f3366.lt)
  have z3369 : n0 ≤ h3279.size := Nat.le_trans z3323 E3280.1
  have z3370 : n0 ≤ h3333.size := Nat.le_trans z3369 (Nat.le_of_eq W3334.size.symm)
  have g3368 : n0 ≤ b3343 := by rw [eb3344]; exact z3370
  replace A3342 : own_A Z h3340 b3343 .int [(.int 0), (.int 0), (.int 0)] := A3342
  show own_Ends _ _ _ _ (T3338.setTop (mkF m 61 #[rv r0, rv r1, rv r2, iv 3, .unset, .unset, .unset, .unset, .unset, .unset, .unset] [(.ref b3343), (.ref r0)]))
  have f3371 := f3345.ext E3341
  have f3372 := Fc_outside.other W3222 (Or.inl (Ne.symm nszr0))
  have f3373 := f3372.other W3236 (Or.inl (Ne.symm nszr0))
  have f3374 := f3373.other W3250 (Or.inl (Ne.symm nszr0))
  have f3375 := own_sn f3374 W3263 (own_wl hw 236 rfl) (own_wl hw 229 rfl) (by decide) own_f3 own_f10
  have f3376 := own_sn f3375 W3273 (own_wl hw 236 rfl) (own_wl hw 232 rfl) (by decide) own_f3 own_f3
  have f3377 := f3376.ext E3280
  have f3378 := own_sn f3377 W3334 (own_wl hw 236 rfl) (own_wl hw 234 rfl) (by decide) own_f3 own_f3
  have f3379 := f3378.ext E3341
  refine p_putF Y3339 hx hZ hown (host := "") (Or.inl (own_w hw 235 rfl)) Via.refl f3379 f3371 (Or.inl (own_w hw 236 rfl)) (own_w hw 207 rfl) g (ty := (.array .int)) (by decide) rfl rfl hby rfl d27_61 (fun T3380 h3382 Y3381 W3383 F3384 => ?_)
  refine o_aloadN Y3381 hx hby d27_64 rfl rfl ?_
  refine o_aloadN Y3381 hx hby d27_65 rfl rfl ?_
  have f3385 := f3337.ext E3341
  have f3386 := f3385.other W3383 nr2r0
  refine p_len Y3381 hx hZ f3386 (z := (3 : Int32)) rfl hby rfl d27_66 ?_
  refine o_bipush Y3381 hx hby d27_67 (x := 63) rfl ?_
  refine o_iadd Y3381 hx hby d27_69 rfl (z := 66) rfl ?_
  refine o_bipush Y3381 hx hby d27_70 (x := 6) rfl ?_
  refine own_st (fun t_ => XS.ishr (own_here Y3381) hx rfl (hb hby d27_72) rfl) ?_
  show own_Ends _ _ _ _ (T3380.setTop (mkF m 73 #[rv r0, rv r1, rv r2, iv 3, .unset, .unset, .unset, .unset, .unset, .unset, .unset] [(.int 1), (.ref r0)]))
  refine own_newP Y3381 hx hZ (own_w hw 237 rfl) rfl (hb hby d27_73) rfl (by decide) (nz := 1) (cap := 1) (by decide) (by decide) (by decide) (by decide) (by decide) (ty := .long) rfl (fun T3387 h3389 b3392 eb3393 Y3388 E3390 A3391 => ?_)
  have f3394 := f3371.wr W3383
  have ne3395 : r0 ≠ b3392 := Nat.ne_of_lt (by rw [eb3393]; exact f3394.lt)
  have f3396 := f3348.ext E3341
  have f3397 := f3396.wr W3383
  have ne3398 : r1 ≠ b3392 := Nat.ne_of_lt (by rw [eb3393]; exact f3397.lt)
  have f3399 := f3351.ext E3341
  have f3400 := f3399.other W3383 nszr0
  have ne3401 : sz ≠ b3392 := Nat.ne_of_lt (by rw [eb3393]; exact f3400.lt)
  have ne3402 : r2 ≠ b3392 := Nat.ne_of_lt (by rw [eb3393]; exact f3386.lt)
  have f3403 := f3355.ext E3341
  have f3404 := f3403.other W3383 nesr0
  have ne3405 : es ≠ b3392 := Nat.ne_of_lt (by rw [eb3393]; exact f3404.lt)
  have f3406 := f3358.ext E3341
  have f3407 := f3406.other W3383 nnbar0
  have ne3408 : nba ≠ b3392 := Nat.ne_of_lt (by rw [eb3393]; exact f3407.lt)
  have f3409 := f3361.ext E3341
  have f3410 := f3409.other W3383 newar0
  have ne3411 : ewa ≠ b3392 := Nat.ne_of_lt (by rw [eb3393]; exact f3410.lt)
  have f3412 := f3364.ext E3341
  have f3413 := f3412.other W3383 nvwar0
  have ne3414 : vwa ≠ b3392 := Nat.ne_of_lt (by rw [eb3393]; exact f3413.lt)
  have f3415 := f3366.ext E3341
  have f3416 := f3415.other W3383 (Ne.symm ne3285)
  have ne3417 : b3282 ≠ b3392 := Nat.ne_of_lt (by rw [eb3393]; exact f3416.lt)
  have f3418 := A3342.other W3383 (Ne.symm ne3346)
  have ne3419 : b3343 ≠ b3392 := Nat.ne_of_lt (by rw [eb3393]; exact f3418.lt)
  have z3421 : n0 ≤ h3340.size := Nat.le_trans z3370 E3341.1
  have z3422 : n0 ≤ h3382.size := Nat.le_trans z3421 (Nat.le_of_eq W3383.size.symm)
  have g3420 : n0 ≤ b3392 := by rw [eb3393]; exact z3422
  replace A3391 : own_A Z h3389 b3392 .long [(.long 0)] := A3391
  show own_Ends _ _ _ _ (T3387.setTop (mkF m 75 #[rv r0, rv r1, rv r2, iv 3, .unset, .unset, .unset, .unset, .unset, .unset, .unset] [(.ref b3392), (.ref r0)]))
  have f3423 := f3394.ext E3390
  have f3424 := Fc_boundary.other W3222 (Or.inl (Ne.symm nszr0))
  have f3425 := f3424.other W3236 (Or.inl (Ne.symm nszr0))
  have f3426 := f3425.other W3250 (Or.inl (Ne.symm nszr0))
  have f3427 := own_sn f3426 W3263 (own_wl hw 239 rfl) (own_wl hw 229 rfl) (by decide) own_f0 own_f10
  have f3428 := own_sn f3427 W3273 (own_wl hw 239 rfl) (own_wl hw 232 rfl) (by decide) own_f0 own_f3
  have f3429 := f3428.ext E3280
  have f3430 := own_sn f3429 W3334 (own_wl hw 239 rfl) (own_wl hw 234 rfl) (by decide) own_f0 own_f3
  have f3431 := f3430.ext E3341
  have f3432 := own_sn f3431 W3383 (own_wl hw 239 rfl) (own_wl hw 236 rfl) (by decide) own_f0 own_f3
  have f3433 := f3432.ext E3390
  refine p_putF Y3388 hx hZ hown (host := "") (Or.inl (own_w hw 238 rfl)) Via.refl f3433 f3423 (Or.inl (own_w hw 239 rfl)) (own_w hw 207 rfl) g (ty := (.array .long)) (by decide) rfl rfl hby rfl d27_75 (fun T3434 h3436 Y3435 W3437 F3438 => ?_)
  refine o_aloadN Y3435 hx hby d27_78 rfl rfl ?_
  refine o_aloadN Y3435 hx hby d27_79 rfl rfl ?_
  refine p_getF Y3435 hx hZ hown (host := "") (Or.inl (own_w hw 238 rfl)) Via.refl F3438 hby rfl d27_80 (fun T3439 Y3440 => ?_)
  have f3441 := A3391.other W3437 (Ne.symm ne3395)
  refine p_len Y3440 hx hZ f3441 (z := (1 : Int32)) rfl hby rfl d27_83 ?_
  refine own_newP Y3440 hx hZ (own_w hw 237 rfl) rfl (hb hby d27_84) rfl (by decide) (nz := 1) (cap := 1) (by decide) (by decide) (by decide) (by decide) (by decide) (ty := .long) rfl (fun T3442 h3444 b3447 eb3448 Y3443 E3445 A3446 => ?_)
  have f3449 := f3423.wr W3437
  have ne3450 : r0 ≠ b3447 := Nat.ne_of_lt (by rw [eb3448]; exact f3449.lt)
  have f3451 := f3397.ext E3390
  have f3452 := f3451.wr W3437
  have ne3453 : r1 ≠ b3447 := Nat.ne_of_lt (by rw [eb3448]; exact f3452.lt)
  have f3454 := f3400.ext E3390
  have f3455 := f3454.other W3437 nszr0
  have ne3456 : sz ≠ b3447 := Nat.ne_of_lt (by rw [eb3448]; exact f3455.lt)
  have f3457 := f3386.ext E3390
  have f3458 := f3457.other W3437 nr2r0
  have ne3459 : r2 ≠ b3447 := Nat.ne_of_lt (by rw [eb3448]; exact f3458.lt)
  have f3460 := f3404.ext E3390
  have f3461 := f3460.other W3437 nesr0
  have ne3462 : es ≠ b3447 := Nat.ne_of_lt (by rw [eb3448]; exact f3461.lt)
  have f3463 := f3407.ext E3390
  have f3464 := f3463.other W3437 nnbar0
  have ne3465 : nba ≠ b3447 := Nat.ne_of_lt (by rw [eb3448]; exact f3464.lt)
  have f3466 := f3410.ext E3390
  have f3467 := f3466.other W3437 newar0
  have ne3468 : ewa ≠ b3447 := Nat.ne_of_lt (by rw [eb3448]; exact f3467.lt)
  have f3469 := f3413.ext E3390
  have f3470 := f3469.other W3437 nvwar0
  have ne3471 : vwa ≠ b3447 := Nat.ne_of_lt (by rw [eb3448]; exact f3470.lt)
  have f3472 := f3416.ext E3390
  have f3473 := f3472.other W3437 (Ne.symm ne3285)
  have ne3474 : b3282 ≠ b3447 := Nat.ne_of_lt (by rw [eb3448]; exact f3473.lt)
  have f3475 := f3418.ext E3390
  have f3476 := f3475.other W3437 (Ne.symm ne3346)
  have ne3477 : b3343 ≠ b3447 := Nat.ne_of_lt (by rw [eb3448]; exact f3476.lt)
  have ne3478 : b3392 ≠ b3447 := Nat.ne_of_lt (by rw [eb3448]; exact f3441.lt)
  have z3480 : n0 ≤ h3389.size := Nat.le_trans z3422 E3390.1
  have z3481 : n0 ≤ h3436.size := Nat.le_trans z3480 (Nat.le_of_eq W3437.size.symm)
  have g3479 : n0 ≤ b3447 := by rw [eb3448]; exact z3481
  replace A3446 : own_A Z h3444 b3447 .long [(.long 0)] := A3446
  show own_Ends _ _ _ _ (T3442.setTop (mkF m 86 #[rv r0, rv r1, rv r2, iv 3, .unset, .unset, .unset, .unset, .unset, .unset, .unset] [(.ref b3447), (.ref r0)]))
  have f3482 := f3449.ext E3445
  have f3483 := Fc_quiet.other W3222 (Or.inl (Ne.symm nszr0))
  have f3484 := f3483.other W3236 (Or.inl (Ne.symm nszr0))
  have f3485 := f3484.other W3250 (Or.inl (Ne.symm nszr0))
  have f3486 := own_sn f3485 W3263 (own_wl hw 241 rfl) (own_wl hw 229 rfl) (by decide) own_f0 own_f10
  have f3487 := own_sn f3486 W3273 (own_wl hw 241 rfl) (own_wl hw 232 rfl) (by decide) own_f0 own_f3
  have f3488 := f3487.ext E3280
  have f3489 := own_sn f3488 W3334 (own_wl hw 241 rfl) (own_wl hw 234 rfl) (by decide) own_f0 own_f3
  have f3490 := f3489.ext E3341
  have f3491 := own_sn f3490 W3383 (own_wl hw 241 rfl) (own_wl hw 236 rfl) (by decide) own_f0 own_f3
  have f3492 := f3491.ext E3390
  have f3493 := own_sn f3492 W3437 (own_wl hw 241 rfl) (own_wl hw 239 rfl) (by decide) own_f0 own_f0
  have f3494 := f3493.ext E3445
  refine p_putF Y3443 hx hZ hown (host := "") (Or.inl (own_w hw 240 rfl)) Via.refl f3494 f3482 (Or.inl (own_w hw 241 rfl)) (own_w hw 207 rfl) g (ty := (.array .long)) (by decide) rfl rfl hby rfl d27_86 (fun T3495 h3497 Y3496 W3498 F3499 => ?_)
  refine o_aloadN Y3496 hx hby d27_89 rfl rfl ?_
  have f3500 := Fg_edgeStart.other W3222 (Or.inl nr1sz)
  have f3501 := f3500.other W3236 (Or.inl nr1sz)
  have f3502 := f3501.other W3250 (Or.inl nr1sz)
  have f3503 := f3502.other W3263 (Or.inl nr1r0)
  have f3504 := f3503.other W3273 (Or.inl nr1r0)
  have f3505 := f3504.ext E3280
  have f3506 := f3505.other W3334 (Or.inl nr1r0)
  have f3507 := f3506.ext E3341
  have f3508 := f3507.other W3383 (Or.inl nr1r0)
  have f3509 := f3508.ext E3390
  have f3510 := f3509.other W3437 (Or.inl nr1r0)
  have f3511 := f3510.ext E3445
  have f3512 := f3511.other W3498 (Or.inl nr1r0)
  refine p_getF Y3496 hx hZ hown (host := "") (Or.inl (own_w hw 242 rfl)) Via.refl f3512 hby rfl d27_90 (fun T3513 Y3514 => ?_)
  refine o_astoreN Y3514 hx hby d27_93 rfl rfl (l' := #[rv r0, rv r1, rv r2, rv es, .unset, .unset, .unset, .unset, .unset, .unset, .unset]) rfl ?_
  refine o_aloadN Y3514 hx hby d27_94 rfl rfl ?_
  have f3515 := Fg_neighbour.other W3222 (Or.inl nr1sz)
  have f3516 := f3515.other W3236 (Or.inl nr1sz)
  have f3517 := f3516.other W3250 (Or.inl nr1sz)
  have f3518 := f3517.other W3263 (Or.inl nr1r0)
  have f3519 := f3518.other W3273 (Or.inl nr1r0)
  have f3520 := f3519.ext E3280
  have f3521 := f3520.other W3334 (Or.inl nr1r0)
  have f3522 := f3521.ext E3341
  have f3523 := f3522.other W3383 (Or.inl nr1r0)
  have f3524 := f3523.ext E3390
  have f3525 := f3524.other W3437 (Or.inl nr1r0)
  have f3526 := f3525.ext E3445
  have f3527 := f3526.other W3498 (Or.inl nr1r0)
  refine p_getF Y3514 hx hZ hown (host := "") (Or.inl (own_w hw 243 rfl)) Via.refl f3527 hby rfl d27_95 (fun T3528 Y3529 => ?_)
  refine o_astore Y3529 hx hby d27_98 rfl rfl (l' := #[rv r0, rv r1, rv r2, rv es, rv nba, .unset, .unset, .unset, .unset, .unset, .unset]) rfl ?_
  refine o_aloadN Y3529 hx hby d27_100 rfl rfl ?_
  have f3530 := Fg_edgeWeight.other W3222 (Or.inl nr1sz)
  have f3531 := f3530.other W3236 (Or.inl nr1sz)
  have f3532 := f3531.other W3250 (Or.inl nr1sz)
  have f3533 := f3532.other W3263 (Or.inl nr1r0)
  have f3534 := f3533.other W3273 (Or.inl nr1r0)
  have f3535 := f3534.ext E3280
  have f3536 := f3535.other W3334 (Or.inl nr1r0)
  have f3537 := f3536.ext E3341
  have f3538 := f3537.other W3383 (Or.inl nr1r0)
  have f3539 := f3538.ext E3390
  have f3540 := f3539.other W3437 (Or.inl nr1r0)
  have f3541 := f3540.ext E3445
  have f3542 := f3541.other W3498 (Or.inl nr1r0)
  refine p_getF Y3529 hx hZ hown (host := "") (Or.inl (own_w hw 244 rfl)) Via.refl f3542 hby rfl d27_101 (fun T3543 Y3544 => ?_)
  refine o_astore Y3544 hx hby d27_104 rfl rfl (l' := #[rv r0, rv r1, rv r2, rv es, rv nba, rv ewa, .unset, .unset, .unset, .unset, .unset]) rfl ?_
  refine o_iconst Y3544 hx hby d27_106 (x := 0) rfl ?_
  refine o_istore Y3544 hx hby d27_107 rfl (l' := #[rv r0, rv r1, rv r2, rv es, rv nba, rv ewa, iv 0, .unset, .unset, .unset, .unset]) rfl ?_
  refine o_iload Y3544 hx hby d27_109 rfl ?_
  refine o_aloadN Y3544 hx hby d27_111 rfl rfl ?_
  have f3545 := f3458.ext E3445
  have f3546 := f3545.other W3498 nr2r0
  refine p_len Y3544 hx hZ f3546 (z := (3 : Int32)) rfl hby rfl d27_112 ?_
  refine o_icmpNo Y3544 hx hby d27_113 rfl (XT.ii_ge_f (by decide)) ?_
  refine o_aloadN Y3544 hx hby d27_116 rfl rfl ?_
  refine o_iload Y3544 hx hby d27_117 rfl ?_
  refine p_ldI Y3544 hx hZ f3546 (i := 0) (by decide) (by decide) (Nat.le_of_ble_eq_true rfl) (v := (.int y0)) rfl hby rfl d27_119 ?_
  refine o_istore Y3544 hx hby d27_120 rfl (l' := #[rv r0, rv r1, rv r2, rv es, rv nba, rv ewa, iv 0, iv y0, .unset, .unset, .unset]) rfl ?_
  refine o_iconst Y3544 hx hby d27_122 (x := 0) rfl ?_
  refine o_istore Y3544 hx hby d27_123 rfl (l' := #[rv r0, rv r1, rv r2, rv es, rv nba, rv ewa, iv 0, iv y0, iv 0, .unset, .unset]) rfl ?_
  refine o_iconst Y3544 hx hby d27_125 (x := 0) rfl ?_
  refine o_istore Y3544 hx hby d27_126 rfl (l' := #[rv r0, rv r1, rv r2, rv es, rv nba, rv ewa, iv 0, iv y0, iv 0, iv 0, .unset]) rfl ?_
  refine o_aloadN Y3544 hx hby d27_128 rfl rfl ?_
  refine o_iload Y3544 hx hby d27_129 rfl ?_
  have f3547 := f3461.ext E3445
  have f3548 := f3547.other W3498 nesr0
  refine p_ldI Y3544 hx hZ f3548 (i := 0) (by decide) (by decide) (Nat.le_of_ble_eq_true rfl) (v := (.int 0)) rfl hby rfl d27_131 ?_
  refine o_istore Y3544 hx hby d27_132 rfl (l' := #[rv r0, rv r1, rv r2, rv es, rv nba, rv ewa, iv 0, iv y0, iv 0, iv 0, iv 0]) rfl ?_
  show own_Ends _ _ _ _ (T3543.setTop (mkF m 134 #[rv r0, rv r1, rv r2, rv es, rv nba, rv ewa, iv 0, iv y0, iv 0, iv 0, iv 0] []))
  have hL3549 : ∀ (k_0 : Nat) (T3550 : State)  (i_0 : Nat) (j_0 d_0 o_0 : Int32) (Y3551 : own_S p l e ({ frames := 0, cells := 4, slots := 8, locals := 0 } : Room) s m #[(.ref r0), (.ref r1), (.ref r2)] below meth c n0 T3550 h3497 4 8)  (hj_0 : j_0.toInt = (i_0 : Int)) (hik_0 : i_0 + k_0 = w0) (hC_0 : own_k2 nb k_0 i_0 = true) (hR_0 : own_v2 [y0, y1, y2] nb y0 k_0 i_0 o_0 = own_v2 [y0, y1, y2] nb y0 (w0 - 0) 0 0), own_Ends p.tables e below (own_P s n0 (own_Q_own_rm27 Z r0 nb y0 y1 y2 w0 w1 w2 h0 n0) ({ frames := 0, cells := 4, slots := 8, locals := 0 } : Room).cells ({ frames := 0, cells := 4, slots := 8, locals := 0 } : Room).slots) (T3550.setTop (mkF m 134 #[rv r0, rv r1, rv r2, rv es, rv nba, rv ewa, iv 0, iv y0, iv d_0, iv o_0, iv j_0] [])) := by
   intro k_0
   induction k_0 using Nat.strongRecOn with
   | _ k_0 ih_0 =>
    intro T3550  i_0 j_0 d_0 o_0 Y3551  hj_0 hik_0 hC_0 hR_0
    obtain ⟨hj0_0, hj1_0⟩ := own_nat hj_0
    refine o_iload Y3551 hx hby d27_134 rfl ?_
    refine o_aloadN Y3551 hx hby d27_136 rfl rfl ?_
    refine o_iload Y3551 hx hby d27_137 rfl ?_
    refine o_iconst Y3551 hx hby d27_139 (x := 1) rfl ?_
    refine o_iadd Y3551 hx hby d27_140 rfl (z := 1) rfl ?_
    refine p_ldI Y3551 hx hZ f3548 (i := 1) (by decide) (by decide) (Nat.le_of_ble_eq_true rfl) (v := (.int u0)) rfl hby rfl d27_141 ?_
    by_cases c142_3552 : j_0 < u0
    ·
     refine o_icmpNo Y3551 hx hby d27_142 rfl (XT.ii_ge_f c142_3552) ?_
     show own_Ends _ _ _ _ (T3550.setTop (mkF m 145 #[rv r0, rv r1, rv r2, rv es, rv nba, rv ewa, iv 0, iv y0, iv d_0, iv o_0, iv j_0] []))
     have hlt_0 : i_0 < w0 := by have := c142_3552; rw [own_lt, hj_0, hu0] at this; omega
     obtain ⟨kk_0, rfl⟩ : ∃ q, k_0 = q + 1 := ⟨k_0 - 1, by omega⟩
     obtain ⟨elt_0, ok_0, hC2_0⟩ := own_k2_inv hC_0
     have hR2_0 := own_v2_s hR_0
     refine o_iload Y3551 hx hby d27_145 rfl ?_
     refine o_aload Y3551 hx hby d27_147 rfl rfl ?_
     refine o_iload Y3551 hx hby d27_149 rfl ?_
     have f3553 := f3467.ext E3445
     have f3554 := f3553.other W3498 newar0
     refine p_ldI Y3551 hx hZ f3554 (i := i_0) hj0_0 hj1_0 (own_mlen (by rw [List.length_replicate, ← hbm]; exact elt_0)) (v := (.int 1)) (own_one (by rw [← hbm]; exact elt_0)) hby rfl d27_151 ?_
     refine o_iadd Y3551 hx hby d27_152 rfl rfl ?_
     refine o_istore Y3551 hx hby d27_153 rfl (l' := #[rv r0, rv r1, rv r2, rv es, rv nba, rv ewa, iv 0, iv y0, iv (d_0 + (1 : Int32)), iv o_0, iv j_0]) rfl ?_
     refine o_aloadN Y3551 hx hby d27_155 rfl rfl ?_
     refine o_aload Y3551 hx hby d27_156 rfl rfl ?_
     refine o_iload Y3551 hx hby d27_158 rfl ?_
     have f3555 := f3464.ext E3445
     have f3556 := f3555.other W3498 nnbar0
     refine p_ldI Y3551 hx hZ f3556 (i := i_0) hj0_0 hj1_0 (own_mlen elt_0) (v := (.int (own_g nb i_0))) (own_mget (own_mlen elt_0)) hby rfl d27_160 ?_
     show own_Ends _ _ _ _ (T3550.setTop (mkF m 161 #[rv r0, rv r1, rv r2, rv es, rv nba, rv ewa, iv 0, iv y0, iv (d_0 + (1 : Int32)), iv o_0, iv j_0] [(.int (own_g nb i_0)), (.ref r2)]))
     have A3557 : own_A Z h3497 r2 .int ([y0, y1, y2].map Value.int) := f3546
     refine p_ldI Y3551 hx hZ A3557 (i := (own_g nb i_0).toNatClampNeg) (own_ok3n [y0, y1, y2] rfl ok_0).1 rfl (own_mlen (own_ok3n [y0, y1, y2] rfl ok_0).2) (v := (.int (own_at [y0, y1, y2] (own_g nb i_0)))) (own_mget (own_mlen (own_ok3n [y0, y1, y2] rfl ok_0).2)) hby rfl d27_161 ?_
     refine o_iload Y3551 hx hby d27_162 rfl ?_
     by_cases c164_3558 : (own_at [y0, y1, y2] (own_g nb i_0)) = y0
     ·
      refine o_icmpYes Y3551 hx hby (pc' := 177) d27_164 rfl (XT.ii_eq_t c164_3558) (by decide) (by decide) ?_
      refine o_iinc Y3551 hx hby d27_177 rfl (l' := #[rv r0, rv r1, rv r2, rv es, rv nba, rv ewa, iv 0, iv y0, iv (d_0 + (1 : Int32)), iv o_0, iv (j_0 + (1 : Int32))]) rfl ?_
      refine o_goto Y3551 hx hby (pc' := 134) d27_180 (by decide) (by decide) ?_
      exact ih_0 kk_0 (by omega) T3550  (i_0 + 1) ((j_0 + (1 : Int32))) ((d_0 + (1 : Int32))) (o_0) Y3551  (own_inc hj_0 (by omega)) (by omega) hC2_0 (by have q := hR2_0; rw [own_o2_pos c164_3558] at q; exact q)
     ·
      refine o_icmpNo Y3551 hx hby d27_164 rfl (XT.ii_eq_f c164_3558) ?_
      refine o_iload Y3551 hx hby d27_167 rfl ?_
      refine o_aload Y3551 hx hby d27_169 rfl rfl ?_
      refine o_iload Y3551 hx hby d27_171 rfl ?_
      refine p_ldI Y3551 hx hZ f3554 (i := i_0) hj0_0 hj1_0 (own_mlen (by rw [List.length_replicate, ← hbm]; exact elt_0)) (v := (.int 1)) (own_one (by rw [← hbm]; exact elt_0)) hby rfl d27_173 ?_
      refine o_iadd Y3551 hx hby d27_174 rfl rfl ?_
      refine o_istore Y3551 hx hby d27_175 rfl (l' := #[rv r0, rv r1, rv r2, rv es, rv nba, rv ewa, iv 0, iv y0, iv (d_0 + (1 : Int32)), iv (o_0 + (1 : Int32)), iv j_0]) rfl ?_
      refine o_iinc Y3551 hx hby d27_177 rfl (l' := #[rv r0, rv r1, rv r2, rv es, rv nba, rv ewa, iv 0, iv y0, iv (d_0 + (1 : Int32)), iv (o_0 + (1 : Int32)), iv (j_0 + (1 : Int32))]) rfl ?_
      refine o_goto Y3551 hx hby (pc' := 134) d27_180 (by decide) (by decide) ?_
      exact ih_0 kk_0 (by omega) T3550  (i_0 + 1) ((j_0 + (1 : Int32))) ((d_0 + (1 : Int32))) ((o_0 + (1 : Int32))) Y3551  (own_inc hj_0 (by omega)) (by omega) hC2_0 (by have q := hR2_0; rw [own_o2_neg c164_3558] at q; exact q)
    ·
     refine o_icmpYes Y3551 hx hby (pc' := 183) d27_142 rfl (XT.ii_ge_t c142_3552) (by decide) (by decide) ?_
     show own_Ends _ _ _ _ (T3550.setTop (mkF m 183 #[rv r0, rv r1, rv r2, rv es, rv nba, rv ewa, iv 0, iv y0, iv d_0, iv o_0, iv j_0] []))
     have hk0_0 : k_0 = 0 := by have := c142_3552; rw [own_lt, hj_0, hu0] at this; omega
     subst hk0_0
     have he_0 := own_v2_0 hR_0
     refine o_aloadN Y3551 hx hby d27_183 rfl rfl ?_
     have f3559 := F3335.ext E3341
     have f3560 := own_sn f3559 W3383 (own_wl hw 234 rfl) (own_wl hw 236 rfl) (by decide) own_f3 own_f3
     have f3561 := f3560.ext E3390
     have f3562 := own_sn f3561 W3437 (own_wl hw 234 rfl) (own_wl hw 239 rfl) (by decide) own_f3 own_f0
     have f3563 := f3562.ext E3445
     have f3564 := own_sn f3563 W3498 (own_wl hw 234 rfl) (own_wl hw 241 rfl) (by decide) own_f3 own_f0
     refine p_getF Y3551 hx hZ hown (host := "") (Or.inl (own_w hw 233 rfl)) Via.refl f3564 hby rfl d27_184 (fun T3565 Y3566 => ?_)
     refine o_iload Y3566 hx hby d27_187 rfl ?_
     refine o_iload Y3566 hx hby d27_189 rfl ?_
     have f3567 := f3473.ext E3445
     have f3568 := f3567.other W3498 (Ne.symm ne3285)
     refine p_stI Y3566 hx hZ f3568 g3318 (i := 0) (by decide) (by decide) (Nat.le_of_ble_eq_true rfl) hby rfl d27_191 (fun T3569 h3571 Y3570 W3572 A3573 => ?_)
     replace A3573 : own_A Z h3571 b3282 .int [(.int d_0), (.int 0), (.int 0)] := A3573
     refine o_aloadN Y3570 hx hby d27_192 rfl rfl ?_
     have f3574 := F3384.ext E3390
     have f3575 := own_sn f3574 W3437 (own_wl hw 236 rfl) (own_wl hw 239 rfl) (by decide) own_f3 own_f0
     have f3576 := f3575.ext E3445
     have f3577 := own_sn f3576 W3498 (own_wl hw 236 rfl) (own_wl hw 241 rfl) (by decide) own_f3 own_f0
     have f3578 := f3577.other W3572 (Or.inl ne3285)
     refine p_getF Y3570 hx hZ hown (host := "") (Or.inl (own_w hw 235 rfl)) Via.refl f3578 hby rfl d27_193 (fun T3579 Y3580 => ?_)
     refine o_iload Y3580 hx hby d27_196 rfl ?_
     refine o_iload Y3580 hx hby d27_198 rfl ?_
     have f3581 := f3476.ext E3445
     have f3582 := f3581.other W3498 (Ne.symm ne3346)
     have f3583 := f3582.other W3572 (Ne.symm ne3367)
     refine p_stI Y3580 hx hZ f3583 g3368 (i := 0) (by decide) (by decide) (Nat.le_of_ble_eq_true rfl) hby rfl d27_200 (fun T3584 h3586 Y3585 W3587 A3588 => ?_)
     replace A3588 : own_A Z h3586 b3343 .int [(.int o_0), (.int 0), (.int 0)] := A3588
     show own_Ends _ _ _ _ (T3584.setTop (mkF m 201 #[rv r0, rv r1, rv r2, rv es, rv nba, rv ewa, iv 0, iv y0, iv d_0, iv o_0, iv j_0] []))
     have hJ3589 : ∀ (T3590 : State) (h3592 : Heap) (bx_0 : Int64) (Y3591 : own_S p l e ({ frames := 0, cells := 4, slots := 8, locals := 0 } : Room) s m #[(.ref r0), (.ref r1), (.ref r2)] below meth c n0 T3590 h3592 4 8) (z3593 : n0 ≤ h3592.size) (f3594 : Exa Z h3592 r0 "kombos/query/CellRefinement") (f3595 : Fld Z h3592 r0 "kombos/query/CellRefinement" "degree" "[I" (.ref b3282)) (f3596 : Fld Z h3592 r0 "kombos/query/CellRefinement" "outside" "[I" (.ref b3343)) (f3597 : Fld Z h3592 r0 "kombos/query/CellRefinement" "boundary" "[J" (.ref b3392)) (f3598 : own_A Z h3592 es .int [(.int 0), (.int u0), (.int u1), (.int u2)]) (f3599 : own_A Z h3592 nba .int (nb.map Value.int)) (f3600 : own_A Z h3592 ewa .int ((List.replicate mm2 (1 : Int32)).map Value.int)) (f3601 : own_A Z h3592 r2 .int [(.int y0), (.int y1), (.int y2)]) (f3602 : own_A Z h3592 b3282 .int [(.int d_0), (.int 0), (.int 0)]) (f3603 : own_A Z h3592 b3343 .int [(.int o_0), (.int 0), (.int 0)]) (f3604 : own_A Z h3592 b3392 .long [(.long bx_0)]) , own_Ends p.tables e below (own_P s n0 (own_Q_own_rm27 Z r0 nb y0 y1 y2 w0 w1 w2 h0 n0) ({ frames := 0, cells := 4, slots := 8, locals := 0 } : Room).cells ({ frames := 0, cells := 4, slots := 8, locals := 0 } : Room).slots) (T3590.setTop (mkF m 223 #[rv r0, rv r1, rv r2, rv es, rv nba, rv ewa, iv 0, iv y0, iv d_0, iv o_0, iv j_0] [])) := by
      intro T3590 h3592 bx_0 Y3591 z3593 f3594 f3595 f3596 f3597 f3598 f3599 f3600 f3601 f3602 f3603 f3604 
      refine o_iinc Y3591 hx hby d27_223 rfl (l' := #[rv r0, rv r1, rv r2, rv es, rv nba, rv ewa, iv 1, iv y0, iv d_0, iv o_0, iv j_0]) rfl ?_
      refine o_goto Y3591 hx hby (pc' := 109) d27_226 (by decide) (by decide) ?_
      refine o_iload Y3591 hx hby d27_109 rfl ?_
      refine o_aloadN Y3591 hx hby d27_111 rfl rfl ?_
      refine p_len Y3591 hx hZ f3601 (z := (3 : Int32)) rfl hby rfl d27_112 ?_
      refine o_icmpNo Y3591 hx hby d27_113 rfl (XT.ii_ge_f (by decide)) ?_
      refine o_aloadN Y3591 hx hby d27_116 rfl rfl ?_
      refine o_iload Y3591 hx hby d27_117 rfl ?_
      refine p_ldI Y3591 hx hZ f3601 (i := 1) (by decide) (by decide) (Nat.le_of_ble_eq_true rfl) (v := (.int y1)) rfl hby rfl d27_119 ?_
      refine o_istore Y3591 hx hby d27_120 rfl (l' := #[rv r0, rv r1, rv r2, rv es, rv nba, rv ewa, iv 1, iv y1, iv d_0, iv o_0, iv j_0]) rfl ?_
      refine o_iconst Y3591 hx hby d27_122 (x := 0) rfl ?_
      refine o_istore Y3591 hx hby d27_123 rfl (l' := #[rv r0, rv r1, rv r2, rv es, rv nba, rv ewa, iv 1, iv y1, iv 0, iv o_0, iv j_0]) rfl ?_
      refine o_iconst Y3591 hx hby d27_125 (x := 0) rfl ?_
      refine o_istore Y3591 hx hby d27_126 rfl (l' := #[rv r0, rv r1, rv r2, rv es, rv nba, rv ewa, iv 1, iv y1, iv 0, iv 0, iv j_0]) rfl ?_
      refine o_aloadN Y3591 hx hby d27_128 rfl rfl ?_
      refine o_iload Y3591 hx hby d27_129 rfl ?_
      refine p_ldI Y3591 hx hZ f3598 (i := 1) (by decide) (by decide) (Nat.le_of_ble_eq_true rfl) (v := (.int u0)) rfl hby rfl d27_131 ?_
      refine o_istore Y3591 hx hby d27_132 rfl (l' := #[rv r0, rv r1, rv r2, rv es, rv nba, rv ewa, iv 1, iv y1, iv 0, iv 0, iv u0]) rfl ?_
      show own_Ends _ _ _ _ (T3590.setTop (mkF m 134 #[rv r0, rv r1, rv r2, rv es, rv nba, rv ewa, iv 1, iv y1, iv 0, iv 0, iv u0] []))
      have hL3605 : ∀ (k_1 : Nat) (T3606 : State)  (i_1 : Nat) (j_1 d_1 o_1 : Int32) (Y3607 : own_S p l e ({ frames := 0, cells := 4, slots := 8, locals := 0 } : Room) s m #[(.ref r0), (.ref r1), (.ref r2)] below meth c n0 T3606 h3592 4 8)  (hj_1 : j_1.toInt = (i_1 : Int)) (hik_1 : i_1 + k_1 = w1) (hC_1 : own_k2 nb k_1 i_1 = true) (hR_1 : own_v2 [y0, y1, y2] nb y1 k_1 i_1 o_1 = own_v2 [y0, y1, y2] nb y1 (w1 - w0) w0 0), own_Ends p.tables e below (own_P s n0 (own_Q_own_rm27 Z r0 nb y0 y1 y2 w0 w1 w2 h0 n0) ({ frames := 0, cells := 4, slots := 8, locals := 0 } : Room).cells ({ frames := 0, cells := 4, slots := 8, locals := 0 } : Room).slots) (T3606.setTop (mkF m 134 #[rv r0, rv r1, rv r2, rv es, rv nba, rv ewa, iv 1, iv y1, iv d_1, iv o_1, iv j_1] [])) := by
       intro k_1
       induction k_1 using Nat.strongRecOn with
       | _ k_1 ih_1 =>
        intro T3606  i_1 j_1 d_1 o_1 Y3607  hj_1 hik_1 hC_1 hR_1
        obtain ⟨hj0_1, hj1_1⟩ := own_nat hj_1
        refine o_iload Y3607 hx hby d27_134 rfl ?_
        refine o_aloadN Y3607 hx hby d27_136 rfl rfl ?_
        refine o_iload Y3607 hx hby d27_137 rfl ?_
        refine o_iconst Y3607 hx hby d27_139 (x := 1) rfl ?_
        refine o_iadd Y3607 hx hby d27_140 rfl (z := 2) rfl ?_
        refine p_ldI Y3607 hx hZ f3598 (i := 2) (by decide) (by decide) (Nat.le_of_ble_eq_true rfl) (v := (.int u1)) rfl hby rfl d27_141 ?_
        by_cases c142_3608 : j_1 < u1
        ·
         refine o_icmpNo Y3607 hx hby d27_142 rfl (XT.ii_ge_f c142_3608) ?_
         show own_Ends _ _ _ _ (T3606.setTop (mkF m 145 #[rv r0, rv r1, rv r2, rv es, rv nba, rv ewa, iv 1, iv y1, iv d_1, iv o_1, iv j_1] []))
         have hlt_1 : i_1 < w1 := by have := c142_3608; rw [own_lt, hj_1, hu1] at this; omega
         obtain ⟨kk_1, rfl⟩ : ∃ q, k_1 = q + 1 := ⟨k_1 - 1, by omega⟩
         obtain ⟨elt_1, ok_1, hC2_1⟩ := own_k2_inv hC_1
         have hR2_1 := own_v2_s hR_1
         refine o_iload Y3607 hx hby d27_145 rfl ?_
         refine o_aload Y3607 hx hby d27_147 rfl rfl ?_
         refine o_iload Y3607 hx hby d27_149 rfl ?_
         refine p_ldI Y3607 hx hZ f3600 (i := i_1) hj0_1 hj1_1 (own_mlen (by rw [List.length_replicate, ← hbm]; exact elt_1)) (v := (.int 1)) (own_one (by rw [← hbm]; exact elt_1)) hby rfl d27_151 ?_
         refine o_iadd Y3607 hx hby d27_152 rfl rfl ?_
         refine o_istore Y3607 hx hby d27_153 rfl (l' := #[rv r0, rv r1, rv r2, rv es, rv nba, rv ewa, iv 1, iv y1, iv (d_1 + (1 : Int32)), iv o_1, iv j_1]) rfl ?_
         refine o_aloadN Y3607 hx hby d27_155 rfl rfl ?_
         refine o_aload Y3607 hx hby d27_156 rfl rfl ?_
         refine o_iload Y3607 hx hby d27_158 rfl ?_
         refine p_ldI Y3607 hx hZ f3599 (i := i_1) hj0_1 hj1_1 (own_mlen elt_1) (v := (.int (own_g nb i_1))) (own_mget (own_mlen elt_1)) hby rfl d27_160 ?_
         show own_Ends _ _ _ _ (T3606.setTop (mkF m 161 #[rv r0, rv r1, rv r2, rv es, rv nba, rv ewa, iv 1, iv y1, iv (d_1 + (1 : Int32)), iv o_1, iv j_1] [(.int (own_g nb i_1)), (.ref r2)]))
         have A3609 : own_A Z h3592 r2 .int ([y0, y1, y2].map Value.int) := f3601
         refine p_ldI Y3607 hx hZ A3609 (i := (own_g nb i_1).toNatClampNeg) (own_ok3n [y0, y1, y2] rfl ok_1).1 rfl (own_mlen (own_ok3n [y0, y1, y2] rfl ok_1).2) (v := (.int (own_at [y0, y1, y2] (own_g nb i_1)))) (own_mget (own_mlen (own_ok3n [y0, y1, y2] rfl ok_1).2)) hby rfl d27_161 ?_
         refine o_iload Y3607 hx hby d27_162 rfl ?_
         by_cases c164_3610 : (own_at [y0, y1, y2] (own_g nb i_1)) = y1
         ·
          refine o_icmpYes Y3607 hx hby (pc' := 177) d27_164 rfl (XT.ii_eq_t c164_3610) (by decide) (by decide) ?_
          refine o_iinc Y3607 hx hby d27_177 rfl (l' := #[rv r0, rv r1, rv r2, rv es, rv nba, rv ewa, iv 1, iv y1, iv (d_1 + (1 : Int32)), iv o_1, iv (j_1 + (1 : Int32))]) rfl ?_
          refine o_goto Y3607 hx hby (pc' := 134) d27_180 (by decide) (by decide) ?_
          exact ih_1 kk_1 (by omega) T3606  (i_1 + 1) ((j_1 + (1 : Int32))) ((d_1 + (1 : Int32))) (o_1) Y3607  (own_inc hj_1 (by omega)) (by omega) hC2_1 (by have q := hR2_1; rw [own_o2_pos c164_3610] at q; exact q)
         ·
          refine o_icmpNo Y3607 hx hby d27_164 rfl (XT.ii_eq_f c164_3610) ?_
          refine o_iload Y3607 hx hby d27_167 rfl ?_
          refine o_aload Y3607 hx hby d27_169 rfl rfl ?_
          refine o_iload Y3607 hx hby d27_171 rfl ?_
          refine p_ldI Y3607 hx hZ f3600 (i := i_1) hj0_1 hj1_1 (own_mlen (by rw [List.length_replicate, ← hbm]; exact elt_1)) (v := (.int 1)) (own_one (by rw [← hbm]; exact elt_1)) hby rfl d27_173 ?_
          refine o_iadd Y3607 hx hby d27_174 rfl rfl ?_
          refine o_istore Y3607 hx hby d27_175 rfl (l' := #[rv r0, rv r1, rv r2, rv es, rv nba, rv ewa, iv 1, iv y1, iv (d_1 + (1 : Int32)), iv (o_1 + (1 : Int32)), iv j_1]) rfl ?_
          refine o_iinc Y3607 hx hby d27_177 rfl (l' := #[rv r0, rv r1, rv r2, rv es, rv nba, rv ewa, iv 1, iv y1, iv (d_1 + (1 : Int32)), iv (o_1 + (1 : Int32)), iv (j_1 + (1 : Int32))]) rfl ?_
          refine o_goto Y3607 hx hby (pc' := 134) d27_180 (by decide) (by decide) ?_
          exact ih_1 kk_1 (by omega) T3606  (i_1 + 1) ((j_1 + (1 : Int32))) ((d_1 + (1 : Int32))) ((o_1 + (1 : Int32))) Y3607  (own_inc hj_1 (by omega)) (by omega) hC2_1 (by have q := hR2_1; rw [own_o2_neg c164_3610] at q; exact q)
        ·
         refine o_icmpYes Y3607 hx hby (pc' := 183) d27_142 rfl (XT.ii_ge_t c142_3608) (by decide) (by decide) ?_
         show own_Ends _ _ _ _ (T3606.setTop (mkF m 183 #[rv r0, rv r1, rv r2, rv es, rv nba, rv ewa, iv 1, iv y1, iv d_1, iv o_1, iv j_1] []))
         have hk0_1 : k_1 = 0 := by have := c142_3608; rw [own_lt, hj_1, hu1] at this; omega
         subst hk0_1
         have he_1 := own_v2_0 hR_1
         refine o_aloadN Y3607 hx hby d27_183 rfl rfl ?_
         refine p_getF Y3607 hx hZ hown (host := "") (Or.inl (own_w hw 233 rfl)) Via.refl f3595 hby rfl d27_184 (fun T3611 Y3612 => ?_)
         refine o_iload Y3612 hx hby d27_187 rfl ?_
         refine o_iload Y3612 hx hby d27_189 rfl ?_
         refine p_stI Y3612 hx hZ f3602 g3318 (i := 1) (by decide) (by decide) (Nat.le_of_ble_eq_true rfl) hby rfl d27_191 (fun T3613 h3615 Y3614 W3616 A3617 => ?_)
         replace A3617 : own_A Z h3615 b3282 .int [(.int d_0), (.int d_1), (.int 0)] := A3617
         refine o_aloadN Y3614 hx hby d27_192 rfl rfl ?_
         have f3618 := f3596.other W3616 (Or.inl ne3285)
         refine p_getF Y3614 hx hZ hown (host := "") (Or.inl (own_w hw 235 rfl)) Via.refl f3618 hby rfl d27_193 (fun T3619 Y3620 => ?_)
         refine o_iload Y3620 hx hby d27_196 rfl ?_
         refine o_iload Y3620 hx hby d27_198 rfl ?_
         have f3621 := f3603.other W3616 (Ne.symm ne3367)
         refine p_stI Y3620 hx hZ f3621 g3368 (i := 1) (by decide) (by decide) (Nat.le_of_ble_eq_true rfl) hby rfl d27_200 (fun T3622 h3624 Y3623 W3625 A3626 => ?_)
         replace A3626 : own_A Z h3624 b3343 .int [(.int o_0), (.int o_1), (.int 0)] := A3626
         show own_Ends _ _ _ _ (T3622.setTop (mkF m 201 #[rv r0, rv r1, rv r2, rv es, rv nba, rv ewa, iv 1, iv y1, iv d_1, iv o_1, iv j_1] []))
         have hJ3627 : ∀ (T3628 : State) (h3630 : Heap) (bx_1 : Int64) (Y3629 : own_S p l e ({ frames := 0, cells := 4, slots := 8, locals := 0 } : Room) s m #[(.ref r0), (.ref r1), (.ref r2)] below meth c n0 T3628 h3630 4 8) (z3631 : n0 ≤ h3630.size) (f3632 : Exa Z h3630 r0 "kombos/query/CellRefinement") (f3633 : Fld Z h3630 r0 "kombos/query/CellRefinement" "degree" "[I" (.ref b3282)) (f3634 : Fld Z h3630 r0 "kombos/query/CellRefinement" "outside" "[I" (.ref b3343)) (f3635 : Fld Z h3630 r0 "kombos/query/CellRefinement" "boundary" "[J" (.ref b3392)) (f3636 : own_A Z h3630 es .int [(.int 0), (.int u0), (.int u1), (.int u2)]) (f3637 : own_A Z h3630 nba .int (nb.map Value.int)) (f3638 : own_A Z h3630 ewa .int ((List.replicate mm2 (1 : Int32)).map Value.int)) (f3639 : own_A Z h3630 r2 .int [(.int y0), (.int y1), (.int y2)]) (f3640 : own_A Z h3630 b3282 .int [(.int d_0), (.int d_1), (.int 0)]) (f3641 : own_A Z h3630 b3343 .int [(.int o_0), (.int o_1), (.int 0)]) (f3642 : own_A Z h3630 b3392 .long [(.long bx_1)]) , own_Ends p.tables e below (own_P s n0 (own_Q_own_rm27 Z r0 nb y0 y1 y2 w0 w1 w2 h0 n0) ({ frames := 0, cells := 4, slots := 8, locals := 0 } : Room).cells ({ frames := 0, cells := 4, slots := 8, locals := 0 } : Room).slots) (T3628.setTop (mkF m 223 #[rv r0, rv r1, rv r2, rv es, rv nba, rv ewa, iv 1, iv y1, iv d_1, iv o_1, iv j_1] [])) := by
          intro T3628 h3630 bx_1 Y3629 z3631 f3632 f3633 f3634 f3635 f3636 f3637 f3638 f3639 f3640 f3641 f3642 
          refine o_iinc Y3629 hx hby d27_223 rfl (l' := #[rv r0, rv r1, rv r2, rv es, rv nba, rv ewa, iv 2, iv y1, iv d_1, iv o_1, iv j_1]) rfl ?_
          refine o_goto Y3629 hx hby (pc' := 109) d27_226 (by decide) (by decide) ?_
          refine o_iload Y3629 hx hby d27_109 rfl ?_
          refine o_aloadN Y3629 hx hby d27_111 rfl rfl ?_
          refine p_len Y3629 hx hZ f3639 (z := (3 : Int32)) rfl hby rfl d27_112 ?_
          refine o_icmpNo Y3629 hx hby d27_113 rfl (XT.ii_ge_f (by decide)) ?_
          refine o_aloadN Y3629 hx hby d27_116 rfl rfl ?_
          refine o_iload Y3629 hx hby d27_117 rfl ?_
          refine p_ldI Y3629 hx hZ f3639 (i := 2) (by decide) (by decide) (Nat.le_of_ble_eq_true rfl) (v := (.int y2)) rfl hby rfl d27_119 ?_
          refine o_istore Y3629 hx hby d27_120 rfl (l' := #[rv r0, rv r1, rv r2, rv es, rv nba, rv ewa, iv 2, iv y2, iv d_1, iv o_1, iv j_1]) rfl ?_
          refine o_iconst Y3629 hx hby d27_122 (x := 0) rfl ?_
          refine o_istore Y3629 hx hby d27_123 rfl (l' := #[rv r0, rv r1, rv r2, rv es, rv nba, rv ewa, iv 2, iv y2, iv 0, iv o_1, iv j_1]) rfl ?_
          refine o_iconst Y3629 hx hby d27_125 (x := 0) rfl ?_
          refine o_istore Y3629 hx hby d27_126 rfl (l' := #[rv r0, rv r1, rv r2, rv es, rv nba, rv ewa, iv 2, iv y2, iv 0, iv 0, iv j_1]) rfl ?_
          refine o_aloadN Y3629 hx hby d27_128 rfl rfl ?_
          refine o_iload Y3629 hx hby d27_129 rfl ?_
          refine p_ldI Y3629 hx hZ f3636 (i := 2) (by decide) (by decide) (Nat.le_of_ble_eq_true rfl) (v := (.int u1)) rfl hby rfl d27_131 ?_
          refine o_istore Y3629 hx hby d27_132 rfl (l' := #[rv r0, rv r1, rv r2, rv es, rv nba, rv ewa, iv 2, iv y2, iv 0, iv 0, iv u1]) rfl ?_
          show own_Ends _ _ _ _ (T3628.setTop (mkF m 134 #[rv r0, rv r1, rv r2, rv es, rv nba, rv ewa, iv 2, iv y2, iv 0, iv 0, iv u1] []))
          have hL3643 : ∀ (k_2 : Nat) (T3644 : State)  (i_2 : Nat) (j_2 d_2 o_2 : Int32) (Y3645 : own_S p l e ({ frames := 0, cells := 4, slots := 8, locals := 0 } : Room) s m #[(.ref r0), (.ref r1), (.ref r2)] below meth c n0 T3644 h3630 4 8)  (hj_2 : j_2.toInt = (i_2 : Int)) (hik_2 : i_2 + k_2 = w2) (hC_2 : own_k2 nb k_2 i_2 = true) (hR_2 : own_v2 [y0, y1, y2] nb y2 k_2 i_2 o_2 = own_v2 [y0, y1, y2] nb y2 (w2 - w1) w1 0), own_Ends p.tables e below (own_P s n0 (own_Q_own_rm27 Z r0 nb y0 y1 y2 w0 w1 w2 h0 n0) ({ frames := 0, cells := 4, slots := 8, locals := 0 } : Room).cells ({ frames := 0, cells := 4, slots := 8, locals := 0 } : Room).slots) (T3644.setTop (mkF m 134 #[rv r0, rv r1, rv r2, rv es, rv nba, rv ewa, iv 2, iv y2, iv d_2, iv o_2, iv j_2] [])) := by
           intro k_2
           induction k_2 using Nat.strongRecOn with
           | _ k_2 ih_2 =>
            intro T3644  i_2 j_2 d_2 o_2 Y3645  hj_2 hik_2 hC_2 hR_2
            obtain ⟨hj0_2, hj1_2⟩ := own_nat hj_2
            refine o_iload Y3645 hx hby d27_134 rfl ?_
            refine o_aloadN Y3645 hx hby d27_136 rfl rfl ?_
            refine o_iload Y3645 hx hby d27_137 rfl ?_
            refine o_iconst Y3645 hx hby d27_139 (x := 1) rfl ?_
            refine o_iadd Y3645 hx hby d27_140 rfl (z := 3) rfl ?_
            refine p_ldI Y3645 hx hZ f3636 (i := 3) (by decide) (by decide) (Nat.le_of_ble_eq_true rfl) (v := (.int u2)) rfl hby rfl d27_141 ?_
            by_cases c142_3646 : j_2 < u2
            ·
             refine o_icmpNo Y3645 hx hby d27_142 rfl (XT.ii_ge_f c142_3646) ?_
             show own_Ends _ _ _ _ (T3644.setTop (mkF m 145 #[rv r0, rv r1, rv r2, rv es, rv nba, rv ewa, iv 2, iv y2, iv d_2, iv o_2, iv j_2] []))
             have hlt_2 : i_2 < w2 := by have := c142_3646; rw [own_lt, hj_2, hu2] at this; omega
             obtain ⟨kk_2, rfl⟩ : ∃ q, k_2 = q + 1 := ⟨k_2 - 1, by omega⟩
             obtain ⟨elt_2, ok_2, hC2_2⟩ := own_k2_inv hC_2
             have hR2_2 := own_v2_s hR_2
             refine o_iload Y3645 hx hby d27_145 rfl ?_
             refine o_aload Y3645 hx hby d27_147 rfl rfl ?_
             refine o_iload Y3645 hx hby d27_149 rfl ?_
             refine p_ldI Y3645 hx hZ f3638 (i := i_2) hj0_2 hj1_2 (own_mlen (by rw [List.length_replicate, ← hbm]; exact elt_2)) (v := (.int 1)) (own_one (by rw [← hbm]; exact elt_2)) hby rfl d27_151 ?_
             refine o_iadd Y3645 hx hby d27_152 rfl rfl ?_
             refine o_istore Y3645 hx hby d27_153 rfl (l' := #[rv r0, rv r1, rv r2, rv es, rv nba, rv ewa, iv 2, iv y2, iv (d_2 + (1 : Int32)), iv o_2, iv j_2]) rfl ?_
             refine o_aloadN Y3645 hx hby d27_155 rfl rfl ?_
             refine o_aload Y3645 hx hby d27_156 rfl rfl ?_
             refine o_iload Y3645 hx hby d27_158 rfl ?_
             refine p_ldI Y3645 hx hZ f3637 (i := i_2) hj0_2 hj1_2 (own_mlen elt_2) (v := (.int (own_g nb i_2))) (own_mget (own_mlen elt_2)) hby rfl d27_160 ?_
             show own_Ends _ _ _ _ (T3644.setTop (mkF m 161 #[rv r0, rv r1, rv r2, rv es, rv nba, rv ewa, iv 2, iv y2, iv (d_2 + (1 : Int32)), iv o_2, iv j_2] [(.int (own_g nb i_2)), (.ref r2)]))
             have A3647 : own_A Z h3630 r2 .int ([y0, y1, y2].map Value.int) := f3639
             refine p_ldI Y3645 hx hZ A3647 (i := (own_g nb i_2).toNatClampNeg) (own_ok3n [y0, y1, y2] rfl ok_2).1 rfl (own_mlen (own_ok3n [y0, y1, y2] rfl ok_2).2) (v := (.int (own_at [y0, y1, y2] (own_g nb i_2)))) (own_mget (own_mlen (own_ok3n [y0, y1, y2] rfl ok_2).2)) hby rfl d27_161 ?_
             refine o_iload Y3645 hx hby d27_162 rfl ?_
             by_cases c164_3648 : (own_at [y0, y1, y2] (own_g nb i_2)) = y2
             ·
              refine o_icmpYes Y3645 hx hby (pc' := 177) d27_164 rfl (XT.ii_eq_t c164_3648) (by decide) (by decide) ?_
              refine o_iinc Y3645 hx hby d27_177 rfl (l' := #[rv r0, rv r1, rv r2, rv es, rv nba, rv ewa, iv 2, iv y2, iv (d_2 + (1 : Int32)), iv o_2, iv (j_2 + (1 : Int32))]) rfl ?_
              refine o_goto Y3645 hx hby (pc' := 134) d27_180 (by decide) (by decide) ?_
              exact ih_2 kk_2 (by omega) T3644  (i_2 + 1) ((j_2 + (1 : Int32))) ((d_2 + (1 : Int32))) (o_2) Y3645  (own_inc hj_2 (by omega)) (by omega) hC2_2 (by have q := hR2_2; rw [own_o2_pos c164_3648] at q; exact q)
             ·
              refine o_icmpNo Y3645 hx hby d27_164 rfl (XT.ii_eq_f c164_3648) ?_
              refine o_iload Y3645 hx hby d27_167 rfl ?_
              refine o_aload Y3645 hx hby d27_169 rfl rfl ?_
              refine o_iload Y3645 hx hby d27_171 rfl ?_
              refine p_ldI Y3645 hx hZ f3638 (i := i_2) hj0_2 hj1_2 (own_mlen (by rw [List.length_replicate, ← hbm]; exact elt_2)) (v := (.int 1)) (own_one (by rw [← hbm]; exact elt_2)) hby rfl d27_173 ?_
              refine o_iadd Y3645 hx hby d27_174 rfl rfl ?_
              refine o_istore Y3645 hx hby d27_175 rfl (l' := #[rv r0, rv r1, rv r2, rv es, rv nba, rv ewa, iv 2, iv y2, iv (d_2 + (1 : Int32)), iv (o_2 + (1 : Int32)), iv j_2]) rfl ?_
              refine o_iinc Y3645 hx hby d27_177 rfl (l' := #[rv r0, rv r1, rv r2, rv es, rv nba, rv ewa, iv 2, iv y2, iv (d_2 + (1 : Int32)), iv (o_2 + (1 : Int32)), iv (j_2 + (1 : Int32))]) rfl ?_
              refine o_goto Y3645 hx hby (pc' := 134) d27_180 (by decide) (by decide) ?_
              exact ih_2 kk_2 (by omega) T3644  (i_2 + 1) ((j_2 + (1 : Int32))) ((d_2 + (1 : Int32))) ((o_2 + (1 : Int32))) Y3645  (own_inc hj_2 (by omega)) (by omega) hC2_2 (by have q := hR2_2; rw [own_o2_neg c164_3648] at q; exact q)
            ·
             refine o_icmpYes Y3645 hx hby (pc' := 183) d27_142 rfl (XT.ii_ge_t c142_3646) (by decide) (by decide) ?_
             show own_Ends _ _ _ _ (T3644.setTop (mkF m 183 #[rv r0, rv r1, rv r2, rv es, rv nba, rv ewa, iv 2, iv y2, iv d_2, iv o_2, iv j_2] []))
             have hk0_2 : k_2 = 0 := by have := c142_3646; rw [own_lt, hj_2, hu2] at this; omega
             subst hk0_2
             have he_2 := own_v2_0 hR_2
             refine o_aloadN Y3645 hx hby d27_183 rfl rfl ?_
             refine p_getF Y3645 hx hZ hown (host := "") (Or.inl (own_w hw 233 rfl)) Via.refl f3633 hby rfl d27_184 (fun T3649 Y3650 => ?_)
             refine o_iload Y3650 hx hby d27_187 rfl ?_
             refine o_iload Y3650 hx hby d27_189 rfl ?_
             refine p_stI Y3650 hx hZ f3640 g3318 (i := 2) (by decide) (by decide) (Nat.le_of_ble_eq_true rfl) hby rfl d27_191 (fun T3651 h3653 Y3652 W3654 A3655 => ?_)
             replace A3655 : own_A Z h3653 b3282 .int [(.int d_0), (.int d_1), (.int d_2)] := A3655
             refine o_aloadN Y3652 hx hby d27_192 rfl rfl ?_
             have f3656 := f3634.other W3654 (Or.inl ne3285)
             refine p_getF Y3652 hx hZ hown (host := "") (Or.inl (own_w hw 235 rfl)) Via.refl f3656 hby rfl d27_193 (fun T3657 Y3658 => ?_)
             refine o_iload Y3658 hx hby d27_196 rfl ?_
             refine o_iload Y3658 hx hby d27_198 rfl ?_
             have f3659 := f3641.other W3654 (Ne.symm ne3367)
             refine p_stI Y3658 hx hZ f3659 g3368 (i := 2) (by decide) (by decide) (Nat.le_of_ble_eq_true rfl) hby rfl d27_200 (fun T3660 h3662 Y3661 W3663 A3664 => ?_)
             replace A3664 : own_A Z h3662 b3343 .int [(.int o_0), (.int o_1), (.int o_2)] := A3664
             show own_Ends _ _ _ _ (T3660.setTop (mkF m 201 #[rv r0, rv r1, rv r2, rv es, rv nba, rv ewa, iv 2, iv y2, iv d_2, iv o_2, iv j_2] []))
             have hJ3665 : ∀ (T3666 : State) (h3668 : Heap)  (Y3667 : own_S p l e ({ frames := 0, cells := 4, slots := 8, locals := 0 } : Room) s m #[(.ref r0), (.ref r1), (.ref r2)] below meth c n0 T3666 h3668 4 8) (z3669 : n0 ≤ h3668.size) (f3670 : Exa Z h3668 r0 "kombos/query/CellRefinement") (f3671 : Fld Z h3668 r0 "kombos/query/CellRefinement" "outside" "[I" (.ref b3343)) (f3672 : own_A Z h3668 r2 .int [(.int y0), (.int y1), (.int y2)]) (f3673 : own_A Z h3668 b3343 .int [(.int o_0), (.int o_1), (.int o_2)]) , own_Ends p.tables e below (own_P s n0 (own_Q_own_rm27 Z r0 nb y0 y1 y2 w0 w1 w2 h0 n0) ({ frames := 0, cells := 4, slots := 8, locals := 0 } : Room).cells ({ frames := 0, cells := 4, slots := 8, locals := 0 } : Room).slots) (T3666.setTop (mkF m 223 #[rv r0, rv r1, rv r2, rv es, rv nba, rv ewa, iv 2, iv y2, iv d_2, iv o_2, iv j_2] [])) := by
              intro T3666 h3668  Y3667 z3669 f3670 f3671 f3672 f3673 
              refine o_iinc Y3667 hx hby d27_223 rfl (l' := #[rv r0, rv r1, rv r2, rv es, rv nba, rv ewa, iv 3, iv y2, iv d_2, iv o_2, iv j_2]) rfl ?_
              refine o_goto Y3667 hx hby (pc' := 109) d27_226 (by decide) (by decide) ?_
              refine o_iload Y3667 hx hby d27_109 rfl ?_
              refine o_aloadN Y3667 hx hby d27_111 rfl rfl ?_
              refine p_len Y3667 hx hZ f3672 (z := (3 : Int32)) rfl hby rfl d27_112 ?_
              refine o_icmpYes Y3667 hx hby (pc' := 229) d27_113 rfl (XT.ii_ge_t (by decide)) (by decide) (by decide) ?_
              refine own_retV Y3667 hx hlk hret (hb hby d27_229) (by decide) (by decide) ?_
              exact ⟨_, rfl, z3669, f3670, f3671, (by rw [← he_0, ← he_1, ← he_2]; exact f3673)⟩
             refine o_iload Y3661 hx hby d27_201 rfl ?_
             by_cases c203_3674 : (0 : Int32) < o_2
             ·
              refine o_ifNo Y3661 hx hby d27_203 rfl (XT.i0_le_f c203_3674) ?_
              refine o_aloadN Y3661 hx hby d27_206 rfl rfl ?_
              have f3675 := f3635.other W3654 (Or.inl ne3285)
              have f3676 := f3675.other W3663 (Or.inl ne3346)
              refine p_getF Y3661 hx hZ hown (host := "") (Or.inl (own_w hw 238 rfl)) Via.refl f3676 hby rfl d27_207 (fun T3677 Y3678 => ?_)
              refine o_iload Y3678 hx hby d27_210 rfl ?_
              refine o_bipush Y3678 hx hby d27_212 (x := 6) rfl ?_
              refine own_st (fun t_ => XS.ishr (own_here Y3678) hx rfl (hb hby d27_214) rfl) ?_
              show own_Ends _ _ _ _ (T3677.setTop (mkF m 215 #[rv r0, rv r1, rv r2, rv es, rv nba, rv ewa, iv 2, iv y2, iv d_2, iv o_2, iv j_2] [(.int 0), (.ref b3392)]))
              refine o_dup2 Y3678 hx hby d27_215 rfl rfl rfl ?_
              have f3679 := f3642.other W3654 (Ne.symm ne3417)
              have f3680 := f3679.other W3663 (Ne.symm ne3419)
              refine p_ldJ Y3678 hx hZ f3680 (i := 0) (by decide) (by decide) (Nat.le_of_ble_eq_true rfl) (v := (.long bx_1)) rfl hby rfl d27_216 ?_
              refine own_st (fun t_ => XS.lconst (own_here Y3678) hx rfl (hb hby d27_217) ) ?_
              show own_Ends _ _ _ _ (T3677.setTop (mkF m 218 #[rv r0, rv r1, rv r2, rv es, rv nba, rv ewa, iv 2, iv y2, iv d_2, iv o_2, iv j_2] [(.long 1), (.long bx_1), (.int 0), (.ref b3392)]))
              refine o_iload Y3678 hx hby d27_218 rfl ?_
              refine own_st (fun t_ => XS.lshl (own_here Y3678) hx rfl (hb hby d27_220) rfl) ?_
              show own_Ends _ _ _ _ (T3677.setTop (mkF m 221 #[rv r0, rv r1, rv r2, rv es, rv nba, rv ewa, iv 2, iv y2, iv d_2, iv o_2, iv j_2] [(.long 4), (.long bx_1), (.int 0), (.ref b3392)]))
              refine own_st (fun t_ => XS.lor (own_here Y3678) hx rfl (hb hby d27_221) rfl) ?_
              show own_Ends _ _ _ _ (T3677.setTop (mkF m 222 #[rv r0, rv r1, rv r2, rv es, rv nba, rv ewa, iv 2, iv y2, iv d_2, iv o_2, iv j_2] [(.long (bx_1 ||| (4 : Int64))), (.int 0), (.ref b3392)]))
              refine p_stJ Y3678 hx hZ f3680 g3420 (i := 0) (by decide) (by decide) (Nat.le_of_ble_eq_true rfl) hby rfl d27_222 (fun T3681 h3683 Y3682 W3684 A3685 => ?_)
              replace A3685 : own_A Z h3683 b3392 .long [(.long (bx_1 ||| (4 : Int64)))] := A3685
              have z3686 : n0 ≤ h3653.size := Nat.le_trans z3631 (Nat.le_of_eq W3654.size.symm)
              have z3687 : n0 ≤ h3662.size := Nat.le_trans z3686 (Nat.le_of_eq W3663.size.symm)
              have z3688 : n0 ≤ h3683.size := Nat.le_trans z3687 (Nat.le_of_eq W3684.size.symm)
              have f3689 := f3632.wr W3654
              have f3690 := f3689.wr W3663
              have f3691 := f3690.wr W3684
              have f3692 := f3656.other W3663 (Or.inl ne3346)
              have f3693 := f3692.other W3684 (Or.inl ne3395)
              have f3694 := f3639.other W3654 ne3295
              have f3695 := f3694.other W3663 ne3353
              have f3696 := f3695.other W3684 ne3402
              have f3697 := A3664.other W3684 ne3419
              exact hJ3665 T3681 h3683   Y3682 z3688 f3691 f3693 f3696 f3697 
             ·
              refine o_ifYes Y3661 hx hby (pc' := 223) d27_203 rfl (XT.i0_le_t c203_3674) (by decide) (by decide) ?_
              have z3698 : n0 ≤ h3653.size := Nat.le_trans z3631 (Nat.le_of_eq W3654.size.symm)
              have z3699 : n0 ≤ h3662.size := Nat.le_trans z3698 (Nat.le_of_eq W3663.size.symm)
              have f3700 := f3632.wr W3654
              have f3701 := f3700.wr W3663
              have f3702 := f3656.other W3663 (Or.inl ne3346)
              have f3703 := f3639.other W3654 ne3295
              have f3704 := f3703.other W3663 ne3353
              exact hJ3665 T3660 h3662   Y3661 z3699 f3701 f3702 f3704 A3664 
          exact hL3643 (w2 - w1) T3628  (w1) (u1) ((0 : Int32)) ((0 : Int32)) Y3629  hu1 (by omega) HC2 rfl
         refine o_iload Y3623 hx hby d27_201 rfl ?_
         by_cases c203_3705 : (0 : Int32) < o_1
         ·
          refine o_ifNo Y3623 hx hby d27_203 rfl (XT.i0_le_f c203_3705) ?_
          refine o_aloadN Y3623 hx hby d27_206 rfl rfl ?_
          have f3706 := f3597.other W3616 (Or.inl ne3285)
          have f3707 := f3706.other W3625 (Or.inl ne3346)
          refine p_getF Y3623 hx hZ hown (host := "") (Or.inl (own_w hw 238 rfl)) Via.refl f3707 hby rfl d27_207 (fun T3708 Y3709 => ?_)
          refine o_iload Y3709 hx hby d27_210 rfl ?_
          refine o_bipush Y3709 hx hby d27_212 (x := 6) rfl ?_
          refine own_st (fun t_ => XS.ishr (own_here Y3709) hx rfl (hb hby d27_214) rfl) ?_
          show own_Ends _ _ _ _ (T3708.setTop (mkF m 215 #[rv r0, rv r1, rv r2, rv es, rv nba, rv ewa, iv 1, iv y1, iv d_1, iv o_1, iv j_1] [(.int 0), (.ref b3392)]))
          refine o_dup2 Y3709 hx hby d27_215 rfl rfl rfl ?_
          have f3710 := f3604.other W3616 (Ne.symm ne3417)
          have f3711 := f3710.other W3625 (Ne.symm ne3419)
          refine p_ldJ Y3709 hx hZ f3711 (i := 0) (by decide) (by decide) (Nat.le_of_ble_eq_true rfl) (v := (.long bx_0)) rfl hby rfl d27_216 ?_
          refine own_st (fun t_ => XS.lconst (own_here Y3709) hx rfl (hb hby d27_217) ) ?_
          show own_Ends _ _ _ _ (T3708.setTop (mkF m 218 #[rv r0, rv r1, rv r2, rv es, rv nba, rv ewa, iv 1, iv y1, iv d_1, iv o_1, iv j_1] [(.long 1), (.long bx_0), (.int 0), (.ref b3392)]))
          refine o_iload Y3709 hx hby d27_218 rfl ?_
          refine own_st (fun t_ => XS.lshl (own_here Y3709) hx rfl (hb hby d27_220) rfl) ?_
          show own_Ends _ _ _ _ (T3708.setTop (mkF m 221 #[rv r0, rv r1, rv r2, rv es, rv nba, rv ewa, iv 1, iv y1, iv d_1, iv o_1, iv j_1] [(.long 2), (.long bx_0), (.int 0), (.ref b3392)]))
          refine own_st (fun t_ => XS.lor (own_here Y3709) hx rfl (hb hby d27_221) rfl) ?_
          show own_Ends _ _ _ _ (T3708.setTop (mkF m 222 #[rv r0, rv r1, rv r2, rv es, rv nba, rv ewa, iv 1, iv y1, iv d_1, iv o_1, iv j_1] [(.long (bx_0 ||| (2 : Int64))), (.int 0), (.ref b3392)]))
          refine p_stJ Y3709 hx hZ f3711 g3420 (i := 0) (by decide) (by decide) (Nat.le_of_ble_eq_true rfl) hby rfl d27_222 (fun T3712 h3714 Y3713 W3715 A3716 => ?_)
          replace A3716 : own_A Z h3714 b3392 .long [(.long (bx_0 ||| (2 : Int64)))] := A3716
          have z3717 : n0 ≤ h3615.size := Nat.le_trans z3593 (Nat.le_of_eq W3616.size.symm)
          have z3718 : n0 ≤ h3624.size := Nat.le_trans z3717 (Nat.le_of_eq W3625.size.symm)
          have z3719 : n0 ≤ h3714.size := Nat.le_trans z3718 (Nat.le_of_eq W3715.size.symm)
          have f3720 := f3594.wr W3616
          have f3721 := f3720.wr W3625
          have f3722 := f3721.wr W3715
          have f3723 := f3595.other W3616 (Or.inl ne3285)
          have f3724 := f3723.other W3625 (Or.inl ne3346)
          have f3725 := f3724.other W3715 (Or.inl ne3395)
          have f3726 := f3618.other W3625 (Or.inl ne3346)
          have f3727 := f3726.other W3715 (Or.inl ne3395)
          have f3728 := f3707.other W3715 (Or.inl ne3395)
          have f3729 := f3598.other W3616 ne3301
          have f3730 := f3729.other W3625 ne3356
          have f3731 := f3730.other W3715 ne3405
          have f3732 := f3599.other W3616 ne3307
          have f3733 := f3732.other W3625 ne3359
          have f3734 := f3733.other W3715 ne3408
          have f3735 := f3600.other W3616 ne3313
          have f3736 := f3735.other W3625 ne3362
          have f3737 := f3736.other W3715 ne3411
          have f3738 := f3601.other W3616 ne3295
          have f3739 := f3738.other W3625 ne3353
          have f3740 := f3739.other W3715 ne3402
          have f3741 := A3617.other W3625 ne3367
          have f3742 := f3741.other W3715 ne3417
          have f3743 := A3626.other W3715 ne3419
          exact hJ3627 T3712 h3714  ((bx_0 ||| (2 : Int64))) Y3713 z3719 f3722 f3725 f3727 f3728 f3731 f3734 f3737 f3740 f3742 f3743 A3716 
         ·
          refine o_ifYes Y3623 hx hby (pc' := 223) d27_203 rfl (XT.i0_le_t c203_3705) (by decide) (by decide) ?_
          have z3744 : n0 ≤ h3615.size := Nat.le_trans z3593 (Nat.le_of_eq W3616.size.symm)
          have z3745 : n0 ≤ h3624.size := Nat.le_trans z3744 (Nat.le_of_eq W3625.size.symm)
          have f3746 := f3594.wr W3616
          have f3747 := f3746.wr W3625
          have f3748 := f3595.other W3616 (Or.inl ne3285)
          have f3749 := f3748.other W3625 (Or.inl ne3346)
          have f3750 := f3618.other W3625 (Or.inl ne3346)
          have f3751 := f3597.other W3616 (Or.inl ne3285)
          have f3752 := f3751.other W3625 (Or.inl ne3346)
          have f3753 := f3598.other W3616 ne3301
          have f3754 := f3753.other W3625 ne3356
          have f3755 := f3599.other W3616 ne3307
          have f3756 := f3755.other W3625 ne3359
          have f3757 := f3600.other W3616 ne3313
          have f3758 := f3757.other W3625 ne3362
          have f3759 := f3601.other W3616 ne3295
          have f3760 := f3759.other W3625 ne3353
          have f3761 := A3617.other W3625 ne3367
          have f3762 := f3604.other W3616 (Ne.symm ne3417)
          have f3763 := f3762.other W3625 (Ne.symm ne3419)
          exact hJ3627 T3622 h3624  (bx_0) Y3623 z3745 f3747 f3749 f3750 f3752 f3754 f3756 f3758 f3760 f3761 A3626 f3763 
      exact hL3605 (w1 - w0) T3590  (w0) (u0) ((0 : Int32)) ((0 : Int32)) Y3591  hu0 (by omega) HC1 rfl
     refine o_iload Y3585 hx hby d27_201 rfl ?_
     by_cases c203_3764 : (0 : Int32) < o_0
     ·
      refine o_ifNo Y3585 hx hby d27_203 rfl (XT.i0_le_f c203_3764) ?_
      refine o_aloadN Y3585 hx hby d27_206 rfl rfl ?_
      have f3765 := F3438.ext E3445
      have f3766 := own_sn f3765 W3498 (own_wl hw 239 rfl) (own_wl hw 241 rfl) (by decide) own_f0 own_f0
      have f3767 := f3766.other W3572 (Or.inl ne3285)
      have f3768 := f3767.other W3587 (Or.inl ne3346)
      refine p_getF Y3585 hx hZ hown (host := "") (Or.inl (own_w hw 238 rfl)) Via.refl f3768 hby rfl d27_207 (fun T3769 Y3770 => ?_)
      refine o_iload Y3770 hx hby d27_210 rfl ?_
      refine o_bipush Y3770 hx hby d27_212 (x := 6) rfl ?_
      refine own_st (fun t_ => XS.ishr (own_here Y3770) hx rfl (hb hby d27_214) rfl) ?_
      show own_Ends _ _ _ _ (T3769.setTop (mkF m 215 #[rv r0, rv r1, rv r2, rv es, rv nba, rv ewa, iv 0, iv y0, iv d_0, iv o_0, iv j_0] [(.int 0), (.ref b3392)]))
      refine o_dup2 Y3770 hx hby d27_215 rfl rfl rfl ?_
      have f3771 := f3441.ext E3445
      have f3772 := f3771.other W3498 (Ne.symm ne3395)
      have f3773 := f3772.other W3572 (Ne.symm ne3417)
      have f3774 := f3773.other W3587 (Ne.symm ne3419)
      refine p_ldJ Y3770 hx hZ f3774 (i := 0) (by decide) (by decide) (Nat.le_of_ble_eq_true rfl) (v := (.long 0)) rfl hby rfl d27_216 ?_
      refine own_st (fun t_ => XS.lconst (own_here Y3770) hx rfl (hb hby d27_217) ) ?_
      show own_Ends _ _ _ _ (T3769.setTop (mkF m 218 #[rv r0, rv r1, rv r2, rv es, rv nba, rv ewa, iv 0, iv y0, iv d_0, iv o_0, iv j_0] [(.long 1), (.long 0), (.int 0), (.ref b3392)]))
      refine o_iload Y3770 hx hby d27_218 rfl ?_
      refine own_st (fun t_ => XS.lshl (own_here Y3770) hx rfl (hb hby d27_220) rfl) ?_
      show own_Ends _ _ _ _ (T3769.setTop (mkF m 221 #[rv r0, rv r1, rv r2, rv es, rv nba, rv ewa, iv 0, iv y0, iv d_0, iv o_0, iv j_0] [(.long 1), (.long 0), (.int 0), (.ref b3392)]))
      refine own_st (fun t_ => XS.lor (own_here Y3770) hx rfl (hb hby d27_221) rfl) ?_
      show own_Ends _ _ _ _ (T3769.setTop (mkF m 222 #[rv r0, rv r1, rv r2, rv es, rv nba, rv ewa, iv 0, iv y0, iv d_0, iv o_0, iv j_0] [(.long 1), (.int 0), (.ref b3392)]))
      refine p_stJ Y3770 hx hZ f3774 g3420 (i := 0) (by decide) (by decide) (Nat.le_of_ble_eq_true rfl) hby rfl d27_222 (fun T3775 h3777 Y3776 W3778 A3779 => ?_)
      replace A3779 : own_A Z h3777 b3392 .long [(.long 1)] := A3779
      have z3780 : n0 ≤ h3444.size := Nat.le_trans z3481 E3445.1
      have z3781 : n0 ≤ h3497.size := Nat.le_trans z3780 (Nat.le_of_eq W3498.size.symm)
      have z3782 : n0 ≤ h3571.size := Nat.le_trans z3781 (Nat.le_of_eq W3572.size.symm)
      have z3783 : n0 ≤ h3586.size := Nat.le_trans z3782 (Nat.le_of_eq W3587.size.symm)
      have z3784 : n0 ≤ h3777.size := Nat.le_trans z3783 (Nat.le_of_eq W3778.size.symm)
      have f3785 := f3482.wr W3498
      have f3786 := f3785.wr W3572
      have f3787 := f3786.wr W3587
      have f3788 := f3787.wr W3778
      have f3789 := f3564.other W3572 (Or.inl ne3285)
      have f3790 := f3789.other W3587 (Or.inl ne3346)
      have f3791 := f3790.other W3778 (Or.inl ne3395)
      have f3792 := f3578.other W3587 (Or.inl ne3346)
      have f3793 := f3792.other W3778 (Or.inl ne3395)
      have f3794 := f3768.other W3778 (Or.inl ne3395)
      have f3795 := f3548.other W3572 ne3301
      have f3796 := f3795.other W3587 ne3356
      have f3797 := f3796.other W3778 ne3405
      have f3798 := f3464.ext E3445
      have f3799 := f3798.other W3498 nnbar0
      have f3800 := f3799.other W3572 ne3307
      have f3801 := f3800.other W3587 ne3359
      have f3802 := f3801.other W3778 ne3408
      have f3803 := f3467.ext E3445
      have f3804 := f3803.other W3498 newar0
      have f3805 := f3804.other W3572 ne3313
      have f3806 := f3805.other W3587 ne3362
      have f3807 := f3806.other W3778 ne3411
      have f3808 := f3546.other W3572 ne3295
      have f3809 := f3808.other W3587 ne3353
      have f3810 := f3809.other W3778 ne3402
      have f3811 := A3573.other W3587 ne3367
      have f3812 := f3811.other W3778 ne3417
      have f3813 := A3588.other W3778 ne3419
      exact hJ3589 T3775 h3777  ((1 : Int64)) Y3776 z3784 f3788 f3791 f3793 f3794 f3797 f3802 f3807 f3810 f3812 f3813 A3779 
     ·
      refine o_ifYes Y3585 hx hby (pc' := 223) d27_203 rfl (XT.i0_le_t c203_3764) (by decide) (by decide) ?_
      have z3814 : n0 ≤ h3444.size := Nat.le_trans z3481 E3445.1
      have z3815 : n0 ≤ h3497.size := Nat.le_trans z3814 (Nat.le_of_eq W3498.size.symm)
      have z3816 : n0 ≤ h3571.size := Nat.le_trans z3815 (Nat.le_of_eq W3572.size.symm)
      have z3817 : n0 ≤ h3586.size := Nat.le_trans z3816 (Nat.le_of_eq W3587.size.symm)
      have f3818 := f3482.wr W3498
      have f3819 := f3818.wr W3572
      have f3820 := f3819.wr W3587
      have f3821 := f3564.other W3572 (Or.inl ne3285)
      have f3822 := f3821.other W3587 (Or.inl ne3346)
      have f3823 := f3578.other W3587 (Or.inl ne3346)
      have f3824 := F3438.ext E3445
      have f3825 := own_sn f3824 W3498 (own_wl hw 239 rfl) (own_wl hw 241 rfl) (by decide) own_f0 own_f0
      have f3826 := f3825.other W3572 (Or.inl ne3285)
      have f3827 := f3826.other W3587 (Or.inl ne3346)
      have f3828 := f3548.other W3572 ne3301
      have f3829 := f3828.other W3587 ne3356
      have f3830 := f3464.ext E3445
      have f3831 := f3830.other W3498 nnbar0
      have f3832 := f3831.other W3572 ne3307
      have f3833 := f3832.other W3587 ne3359
      have f3834 := f3467.ext E3445
      have f3835 := f3834.other W3498 newar0
      have f3836 := f3835.other W3572 ne3313
      have f3837 := f3836.other W3587 ne3362
      have f3838 := f3546.other W3572 ne3295
      have f3839 := f3838.other W3587 ne3353
      have f3840 := A3573.other W3587 ne3367
      have f3841 := f3441.ext E3445
      have f3842 := f3841.other W3498 (Ne.symm ne3395)
      have f3843 := f3842.other W3572 (Ne.symm ne3417)
      have f3844 := f3843.other W3587 (Ne.symm ne3419)
      exact hJ3589 T3584 h3586  ((0 : Int64)) Y3585 z3817 f3820 f3822 f3823 f3827 f3829 f3833 f3837 f3839 f3840 A3588 f3844 
  exact hL3549 (w0 - 0) T3543  (0) ((0 : Int32)) ((0 : Int32)) ((0 : Int32)) Y3544  own_l0 (by omega) HC0 rfl
def bc28 : ByteArray := prog_81_method_4_code
theorem d28_0 : decode bc28 0 = .ok (.lconst 0, 1) := by decide +kernel
theorem d28_1 : decode bc28 1 = .ok (.lstore_n 1, 1) := by decide +kernel
theorem d28_2 : decode bc28 2 = .ok (.aload_n 0, 1) := by decide +kernel
theorem d28_3 : decode bc28 3 = .ok (.getfield 41, 3) := by decide +kernel
theorem d28_6 : decode bc28 6 = .ok (.astore_n 3, 1) := by decide +kernel
theorem d28_7 : decode bc28 7 = .ok (.aload_n 3, 1) := by decide +kernel
theorem d28_8 : decode bc28 8 = .ok (.arraylength, 1) := by decide +kernel
theorem d28_9 : decode bc28 9 = .ok (.istore 4, 2) := by decide +kernel
theorem d28_11 : decode bc28 11 = .ok (.iconst 0, 1) := by decide +kernel
theorem d28_12 : decode bc28 12 = .ok (.istore 5, 2) := by decide +kernel
theorem d28_14 : decode bc28 14 = .ok (.iload 5, 2) := by decide +kernel
theorem d28_16 : decode bc28 16 = .ok (.iload 4, 2) := by decide +kernel
theorem d28_18 : decode bc28 18 = .ok (.if_icmp .ge 21, 3) := by decide +kernel
theorem d28_21 : decode bc28 21 = .ok (.aload_n 3, 1) := by decide +kernel
theorem d28_22 : decode bc28 22 = .ok (.iload 5, 2) := by decide +kernel
theorem d28_24 : decode bc28 24 = .ok (.iaload, 1) := by decide +kernel
theorem d28_25 : decode bc28 25 = .ok (.istore 6, 2) := by decide +kernel
theorem d28_27 : decode bc28 27 = .ok (.lload_n 1, 1) := by decide +kernel
theorem d28_28 : decode bc28 28 = .ok (.iload 6, 2) := by decide +kernel
theorem d28_30 : decode bc28 30 = .ok (.i2l, 1) := by decide +kernel
theorem d28_31 : decode bc28 31 = .ok (.ladd, 1) := by decide +kernel
theorem d28_32 : decode bc28 32 = .ok (.lstore_n 1, 1) := by decide +kernel
theorem d28_33 : decode bc28 33 = .ok (.iinc 5 1, 3) := by decide +kernel
theorem d28_36 : decode bc28 36 = .ok (.goto (-22), 3) := by decide +kernel
theorem d28_39 : decode bc28 39 = .ok (.lload_n 1, 1) := by decide +kernel
theorem d28_40 : decode bc28 40 = .ok (.ldc2_w 60, 3) := by decide +kernel
theorem d28_43 : decode bc28 43 = .ok (.ldiv, 1) := by decide +kernel
theorem d28_44 : decode bc28 44 = .ok (.l2i, 1) := by decide +kernel
theorem d28_45 : decode bc28 45 = .ok (.ireturn, 1) := by decide +kernel
theorem own_ef_own_rm28 (m : MethodId) (r0 : Addr) : entryFrame m #[(.ref r0)] 7 = mkF m 0 #[rv r0, .unset, .unset, .unset, .unset, .unset, .unset] [] := by first | (simp [entryFrame, mkF, argsToLocals, Value.category]; done) | rfl
def own_Q_own_rm28 (Z : State) (o0 o1 o2 : Int32) (h0 : Heap) (n0 : Nat) (v : Option Value) (h : Heap) : Prop := v = some (.int (((((((0 : Int64) + (o0.toInt64)) + (o1.toInt64)) + (o2.toInt64)) / (2 : Int64)).toInt32))) ∧ h0 = h
set_option maxRecDepth 65536 in
set_option maxHeartbeats 40000000 in
theorem own_rm28 (l : Launch) (Z : State) (a0 : Array Value) (hw : ∀ d ∈ tables_1, d.before a0 Z = true) (ws : List Jvm.Cond) (r0 : Addr) (oa : Addr) (o0 o1 o2 : Int32) (h0 : Heap) (n0 : Nat)  (Ec : Exa Z h0 r0 "kombos/query/CellRefinement") (Fc_outside : Fld Z h0 r0 "kombos/query/CellRefinement" "outside" "[I" (.ref oa)) (A : own_A Z h0 oa .int [(.int o0), (.int o1), (.int o2)]) :
    own_Con l Z (⟨"kombos/query/CellRefinement", "cutWeight", "()I"⟩ : MethodName) prog_81_method_4_code 7 (some .int) ws ({ frames := 0, cells := 0, slots := 0, locals := 0 } : Room) #[(.ref r0)] h0 n0 (own_Q_own_rm28 Z o0 o1 o2 h0 n0) := by
  refine own_body (plainFor_of_name own_pn6) ?_
  intro p e s m below meth c T0 hx hZ hby hml hown hnm hret hlk Y0
  replace hown : s.vm.findClass "kombos/query/CellRefinement" = some m.cls := hown
  replace hnm : meth.name = "cutWeight" := hnm
  rw [own_ef_own_rm28 m r0]
  show own_Ends _ _ _ _ (T0.setTop (mkF m 0 #[rv r0, .unset, .unset, .unset, .unset, .unset, .unset] []))
  refine own_st (fun t_ => XS.lconst (own_here Y0) hx rfl (hb hby d28_0) ) ?_
  show own_Ends _ _ _ _ (T0.setTop (mkF m 1 #[rv r0, .unset, .unset, .unset, .unset, .unset, .unset] [(.long 0)]))
  refine own_st (fun t_ => XS.lstoreN (own_here Y0) hx rfl (hb hby d28_1) rfl (l' := #[rv r0, .val (.long 0), .second, .unset, .unset, .unset, .unset]) rfl) ?_
  show own_Ends _ _ _ _ (T0.setTop (mkF m 2 #[rv r0, .val (.long 0), .second, .unset, .unset, .unset, .unset] []))
  refine o_aloadN Y0 hx hby d28_2 rfl rfl ?_
  refine p_getF Y0 hx hZ hown (host := "") (Or.inl (own_w hw 235 rfl)) Via.refl Fc_outside hby rfl d28_3 (fun T3845 Y3846 => ?_)
  refine o_astoreN Y3846 hx hby d28_6 rfl rfl (l' := #[rv r0, .val (.long 0), .second, rv oa, .unset, .unset, .unset]) rfl ?_
  refine o_aloadN Y3846 hx hby d28_7 rfl rfl ?_
  refine p_len Y3846 hx hZ A (z := (3 : Int32)) rfl hby rfl d28_8 ?_
  refine o_istore Y3846 hx hby d28_9 rfl (l' := #[rv r0, .val (.long 0), .second, rv oa, iv 3, .unset, .unset]) rfl ?_
  refine o_iconst Y3846 hx hby d28_11 (x := 0) rfl ?_
  refine o_istore Y3846 hx hby d28_12 rfl (l' := #[rv r0, .val (.long 0), .second, rv oa, iv 3, iv 0, .unset]) rfl ?_
  refine o_iload Y3846 hx hby d28_14 rfl ?_
  refine o_iload Y3846 hx hby d28_16 rfl ?_
  refine o_icmpNo Y3846 hx hby d28_18 rfl (XT.ii_ge_f (by decide)) ?_
  refine o_aloadN Y3846 hx hby d28_21 rfl rfl ?_
  refine o_iload Y3846 hx hby d28_22 rfl ?_
  refine p_ldI Y3846 hx hZ A (i := 0) (by decide) (by decide) (Nat.le_of_ble_eq_true rfl) (v := (.int o0)) rfl hby rfl d28_24 ?_
  refine o_istore Y3846 hx hby d28_25 rfl (l' := #[rv r0, .val (.long 0), .second, rv oa, iv 3, iv 0, iv o0]) rfl ?_
  refine o_lloadN Y3846 hx hby d28_27 rfl ?_
  refine o_iload Y3846 hx hby d28_28 rfl ?_
  refine o_i2l Y3846 hx hby d28_30 rfl rfl ?_
  refine o_ladd Y3846 hx hby d28_31 rfl rfl ?_
  refine own_st (fun t_ => XS.lstoreN (own_here Y3846) hx rfl (hb hby d28_32) rfl (l' := #[rv r0, .val (.long ((0 : Int64) + (o0.toInt64))), .second, rv oa, iv 3, iv 0, iv o0]) rfl) ?_
  show own_Ends _ _ _ _ (T3845.setTop (mkF m 33 #[rv r0, .val (.long ((0 : Int64) + (o0.toInt64))), .second, rv oa, iv 3, iv 0, iv o0] []))
  refine o_iinc Y3846 hx hby d28_33 rfl (l' := #[rv r0, .val (.long ((0 : Int64) + (o0.toInt64))), .second, rv oa, iv 3, iv 1, iv o0]) rfl ?_
  refine o_goto Y3846 hx hby (pc' := 14) d28_36 (by decide) (by decide) ?_
  refine o_iload Y3846 hx hby d28_14 rfl ?_
  refine o_iload Y3846 hx hby d28_16 rfl ?_
  refine o_icmpNo Y3846 hx hby d28_18 rfl (XT.ii_ge_f (by decide)) ?_
  refine o_aloadN Y3846 hx hby d28_21 rfl rfl ?_
  refine o_iload Y3846 hx hby d28_22 rfl ?_
  refine p_ldI Y3846 hx hZ A (i := 1) (by decide) (by decide) (Nat.le_of_ble_eq_true rfl) (v := (.int o1)) rfl hby rfl d28_24 ?_
  refine o_istore Y3846 hx hby d28_25 rfl (l' := #[rv r0, .val (.long ((0 : Int64) + (o0.toInt64))), .second, rv oa, iv 3, iv 1, iv o1]) rfl ?_
  refine o_lloadN Y3846 hx hby d28_27 rfl ?_
  refine o_iload Y3846 hx hby d28_28 rfl ?_
  refine o_i2l Y3846 hx hby d28_30 rfl rfl ?_
  refine o_ladd Y3846 hx hby d28_31 rfl rfl ?_
  refine own_st (fun t_ => XS.lstoreN (own_here Y3846) hx rfl (hb hby d28_32) rfl (l' := #[rv r0, .val (.long (((0 : Int64) + (o0.toInt64)) + (o1.toInt64))), .second, rv oa, iv 3, iv 1, iv o1]) rfl) ?_
  show own_Ends _ _ _ _ (T3845.setTop (mkF m 33 #[rv r0, .val (.long (((0 : Int64) + (o0.toInt64)) + (o1.toInt64))), .second, rv oa, iv 3, iv 1, iv o1] []))
  refine o_iinc Y3846 hx hby d28_33 rfl (l' := #[rv r0, .val (.long (((0 : Int64) + (o0.toInt64)) + (o1.toInt64))), .second, rv oa, iv 3, iv 2, iv o1]) rfl ?_
  refine o_goto Y3846 hx hby (pc' := 14) d28_36 (by decide) (by decide) ?_
  refine o_iload Y3846 hx hby d28_14 rfl ?_
  refine o_iload Y3846 hx hby d28_16 rfl ?_
  refine o_icmpNo Y3846 hx hby d28_18 rfl (XT.ii_ge_f (by decide)) ?_
  refine o_aloadN Y3846 hx hby d28_21 rfl rfl ?_
  refine o_iload Y3846 hx hby d28_22 rfl ?_
  refine p_ldI Y3846 hx hZ A (i := 2) (by decide) (by decide) (Nat.le_of_ble_eq_true rfl) (v := (.int o2)) rfl hby rfl d28_24 ?_
  refine o_istore Y3846 hx hby d28_25 rfl (l' := #[rv r0, .val (.long (((0 : Int64) + (o0.toInt64)) + (o1.toInt64))), .second, rv oa, iv 3, iv 2, iv o2]) rfl ?_
  refine o_lloadN Y3846 hx hby d28_27 rfl ?_
  refine o_iload Y3846 hx hby d28_28 rfl ?_
  refine o_i2l Y3846 hx hby d28_30 rfl rfl ?_
  refine o_ladd Y3846 hx hby d28_31 rfl rfl ?_
  refine own_st (fun t_ => XS.lstoreN (own_here Y3846) hx rfl (hb hby d28_32) rfl (l' := #[rv r0, .val (.long ((((0 : Int64) + (o0.toInt64)) + (o1.toInt64)) + (o2.toInt64))), .second, rv oa, iv 3, iv 2, iv o2]) rfl) ?_
  show own_Ends _ _ _ _ (T3845.setTop (mkF m 33 #[rv r0, .val (.long ((((0 : Int64) + (o0.toInt64)) + (o1.toInt64)) + (o2.toInt64))), .second, rv oa, iv 3, iv 2, iv o2] []))
  refine o_iinc Y3846 hx hby d28_33 rfl (l' := #[rv r0, .val (.long ((((0 : Int64) + (o0.toInt64)) + (o1.toInt64)) + (o2.toInt64))), .second, rv oa, iv 3, iv 3, iv o2]) rfl ?_
  refine o_goto Y3846 hx hby (pc' := 14) d28_36 (by decide) (by decide) ?_
  refine o_iload Y3846 hx hby d28_14 rfl ?_
  refine o_iload Y3846 hx hby d28_16 rfl ?_
  refine o_icmpYes Y3846 hx hby (pc' := 39) d28_18 rfl (XT.ii_ge_t (by decide)) (by decide) (by decide) ?_
  refine o_lloadN Y3846 hx hby d28_39 rfl ?_
  refine own_ldcJ Y3846 hx hZ hown (own_w hw 250 rfl) rfl (hb hby d28_40) ?_
  show own_Ends _ _ _ _ (T3845.setTop (mkF m 43 #[rv r0, .val (.long ((((0 : Int64) + (o0.toInt64)) + (o1.toInt64)) + (o2.toInt64))), .second, rv oa, iv 3, iv 3, iv o2] [(.long 2), (.long ((((0 : Int64) + (o0.toInt64)) + (o1.toInt64)) + (o2.toInt64)))]))
  refine own_st (fun t_ => XS.ldiv (own_here Y3846) hx rfl (hb hby d28_43) rfl (by decide)) ?_
  show own_Ends _ _ _ _ (T3845.setTop (mkF m 44 #[rv r0, .val (.long ((((0 : Int64) + (o0.toInt64)) + (o1.toInt64)) + (o2.toInt64))), .second, rv oa, iv 3, iv 3, iv o2] [(.long (((((0 : Int64) + (o0.toInt64)) + (o1.toInt64)) + (o2.toInt64)) / (2 : Int64)))]))
  refine o_l2i Y3846 hx hby d28_44 rfl rfl ?_
  refine own_retI Y3846 hx hlk hret (hb hby d28_45) (by decide) (by decide) ?_
  exact ⟨rfl, rfl⟩
def own_e (f a b x : Int32) : Int32 := if f = 0 then x else if a = b then x else x + 1
theorem own_e0 {f a b x : Int32} (h : f = 0) : own_e f a b x = x := if_pos h
theorem own_e1 {f a b x : Int32} (h : ¬ f = 0) (h' : a = b) : own_e f a b x = x := by rw [own_e, if_neg h, if_pos h']
theorem own_e2 {f a b x : Int32} (h : ¬ f = 0) (h' : ¬ a = b) : own_e f a b x = x + 1 := by rw [own_e, if_neg h, if_neg h']
theorem own_and3 (x : Int32) : 0 ≤ (x &&& 3).toInt ∧ (x &&& 3).toInt ≤ 3 := by
  have q := c_mask x 3 2 (by decide) (by decide)
  have p : ((2 ^ 2 : Nat) : Int) = 4 := by decide
  rw [p] at q; omega
theorem own_gs1 {S : List Int32} (hl : S.length = 8192) (a : Int32) : ∀ i, i < 1 → own_g (S.set 0 a) i = own_g [a] i := by
  intro i hi
  obtain rfl : i = 0 := by omega
  simp [own_g, hl]
theorem own_gs2 {S : List Int32} (hl : S.length = 8192) (a b : Int32) : ∀ i, i < 2 → own_g ((S.set 0 a).set 1 b) i = own_g [a, b] i := by
  intro i hi
  rcases (by omega : i = 0 ∨ i = 1) with rfl | rfl <;> simp [own_g, hl, List.getElem?_set]
theorem own_gs3 {S : List Int32} (hl : S.length = 8192) (a b d : Int32) : ∀ i, i < 3 → own_g (((S.set 0 a).set 1 b).set 2 d) i = own_g [a, b, d] i := by
  intro i hi
  rcases (by omega : i = 0 ∨ i = 1 ∨ i = 2) with rfl | rfl | rfl <;> simp [own_g, hl, List.getElem?_set]
def own_cut (y0 y1 y2 : Int32) (nb : List Int32) (w0 w1 w2 : Nat) : Int32 := (((((((0 : Int64) + ((own_v2 [y0, y1, y2] nb y0 (w0 - 0) 0 0).toInt64)) + ((own_v2 [y0, y1, y2] nb y1 (w1 - w0) w0 0).toInt64)) + ((own_v2 [y0, y1, y2] nb y2 (w2 - w1) w1 0).toInt64)) / (2 : Int64)).toInt32))
theorem own_pl0 (f0 f1 f2 y0 y1 y2 : Int32) (h0 : f0 = 0) (h1 : f1 = 0) (h2 : f2 = 0) : own_cut y0 y1 y2 [] 0 0 0 = own_e f2 y1 y2 (own_e f1 y0 y2 (own_e f0 y0 y1 0)) := by
  have q0 : own_v2 [y0, y1, y2] [] y0 (0 - 0) 0 0 = 0 := by first | rfl | (simp [own_v2, own_o2, own_at, own_g]; done)
  have q1 : own_v2 [y0, y1, y2] [] y1 (0 - 0) 0 0 = 0 := by first | rfl | (simp [own_v2, own_o2, own_at, own_g]; done)
  have q2 : own_v2 [y0, y1, y2] [] y2 (0 - 0) 0 0 = 0 := by first | rfl | (simp [own_v2, own_o2, own_at, own_g]; done)
  rw [own_cut, q0, q1, q2]
  simp only [own_e, if_pos h0, if_pos h1, if_pos h2] <;> decide +kernel
theorem own_pl1 (f0 f1 f2 y0 y1 y2 : Int32) (h0 : ¬ f0 = 0) (h1 : f1 = 0) (h2 : f2 = 0) : own_cut y0 y1 y2 [1, 0] 1 2 2 = own_e f2 y1 y2 (own_e f1 y0 y2 (own_e f0 y0 y1 0)) := by
  have q0 : own_v2 [y0, y1, y2] [1, 0] y0 (1 - 0) 0 0 = (if y1 = y0 then 0 else 0 + 1) := by first | rfl | (simp [own_v2, own_o2, own_at, own_g]; done)
  have q1 : own_v2 [y0, y1, y2] [1, 0] y1 (2 - 1) 1 0 = (if y0 = y1 then 0 else 0 + 1) := by first | rfl | (simp [own_v2, own_o2, own_at, own_g]; done)
  have q2 : own_v2 [y0, y1, y2] [1, 0] y2 (2 - 2) 2 0 = 0 := by first | rfl | (simp [own_v2, own_o2, own_at, own_g]; done)
  rw [own_cut, q0, q1, q2]
  by_cases g01 : y0 = y1
  ·
   simp only [own_e, if_neg h0, if_pos h1, if_pos h2, if_pos g01, if_pos g01.symm] <;> decide +kernel
  ·
   simp only [own_e, if_neg h0, if_pos h1, if_pos h2, if_neg g01, if_neg (Ne.symm g01)] <;> decide +kernel
theorem own_pl2 (f0 f1 f2 y0 y1 y2 : Int32) (h0 : f0 = 0) (h1 : ¬ f1 = 0) (h2 : f2 = 0) : own_cut y0 y1 y2 [2, 0] 1 1 2 = own_e f2 y1 y2 (own_e f1 y0 y2 (own_e f0 y0 y1 0)) := by
  have q0 : own_v2 [y0, y1, y2] [2, 0] y0 (1 - 0) 0 0 = (if y2 = y0 then 0 else 0 + 1) := by first | rfl | (simp [own_v2, own_o2, own_at, own_g]; done)
  have q1 : own_v2 [y0, y1, y2] [2, 0] y1 (1 - 1) 1 0 = 0 := by first | rfl | (simp [own_v2, own_o2, own_at, own_g]; done)
  have q2 : own_v2 [y0, y1, y2] [2, 0] y2 (2 - 1) 1 0 = (if y0 = y2 then 0 else 0 + 1) := by first | rfl | (simp [own_v2, own_o2, own_at, own_g]; done)
  rw [own_cut, q0, q1, q2]
  by_cases g02 : y0 = y2
  ·
   simp only [own_e, if_pos h0, if_neg h1, if_pos h2, if_pos g02, if_pos g02.symm] <;> decide +kernel
  ·
   simp only [own_e, if_pos h0, if_neg h1, if_pos h2, if_neg g02, if_neg (Ne.symm g02)] <;> decide +kernel
theorem own_pl3 (f0 f1 f2 y0 y1 y2 : Int32) (h0 : ¬ f0 = 0) (h1 : ¬ f1 = 0) (h2 : f2 = 0) : own_cut y0 y1 y2 [1, 2, 0, 0] 2 3 4 = own_e f2 y1 y2 (own_e f1 y0 y2 (own_e f0 y0 y1 0)) := by
  have q0 : own_v2 [y0, y1, y2] [1, 2, 0, 0] y0 (2 - 0) 0 0 = (if y2 = y0 then (if y1 = y0 then 0 else 0 + 1) else (if y1 = y0 then 0 else 0 + 1) + 1) := by first | rfl | (simp [own_v2, own_o2, own_at, own_g]; done)
  have q1 : own_v2 [y0, y1, y2] [1, 2, 0, 0] y1 (3 - 2) 2 0 = (if y0 = y1 then 0 else 0 + 1) := by first | rfl | (simp [own_v2, own_o2, own_at, own_g]; done)
  have q2 : own_v2 [y0, y1, y2] [1, 2, 0, 0] y2 (4 - 3) 3 0 = (if y0 = y2 then 0 else 0 + 1) := by first | rfl | (simp [own_v2, own_o2, own_at, own_g]; done)
  rw [own_cut, q0, q1, q2]
  by_cases g01 : y0 = y1
  ·
   by_cases g02 : y0 = y2
   ·
    simp only [own_e, if_neg h0, if_neg h1, if_pos h2, if_pos g01, if_pos g01.symm, if_pos g02, if_pos g02.symm] <;> decide +kernel
   ·
    simp only [own_e, if_neg h0, if_neg h1, if_pos h2, if_pos g01, if_pos g01.symm, if_neg g02, if_neg (Ne.symm g02)] <;> decide +kernel
  ·
   by_cases g02 : y0 = y2
   ·
    simp only [own_e, if_neg h0, if_neg h1, if_pos h2, if_neg g01, if_neg (Ne.symm g01), if_pos g02, if_pos g02.symm] <;> decide +kernel
   ·
    simp only [own_e, if_neg h0, if_neg h1, if_pos h2, if_neg g01, if_neg (Ne.symm g01), if_neg g02, if_neg (Ne.symm g02)] <;> decide +kernel
theorem own_pl4 (f0 f1 f2 y0 y1 y2 : Int32) (h0 : f0 = 0) (h1 : f1 = 0) (h2 : ¬ f2 = 0) : own_cut y0 y1 y2 [2, 1] 0 1 2 = own_e f2 y1 y2 (own_e f1 y0 y2 (own_e f0 y0 y1 0)) := by
  have q0 : own_v2 [y0, y1, y2] [2, 1] y0 (0 - 0) 0 0 = 0 := by first | rfl | (simp [own_v2, own_o2, own_at, own_g]; done)
  have q1 : own_v2 [y0, y1, y2] [2, 1] y1 (1 - 0) 0 0 = (if y2 = y1 then 0 else 0 + 1) := by first | rfl | (simp [own_v2, own_o2, own_at, own_g]; done)
  have q2 : own_v2 [y0, y1, y2] [2, 1] y2 (2 - 1) 1 0 = (if y1 = y2 then 0 else 0 + 1) := by first | rfl | (simp [own_v2, own_o2, own_at, own_g]; done)
  rw [own_cut, q0, q1, q2]
  by_cases g12 : y1 = y2
  ·
   simp only [own_e, if_pos h0, if_pos h1, if_neg h2, if_pos g12, if_pos g12.symm] <;> decide +kernel
  ·
   simp only [own_e, if_pos h0, if_pos h1, if_neg h2, if_neg g12, if_neg (Ne.symm g12)] <;> decide +kernel
theorem own_pl5 (f0 f1 f2 y0 y1 y2 : Int32) (h0 : ¬ f0 = 0) (h1 : f1 = 0) (h2 : ¬ f2 = 0) : own_cut y0 y1 y2 [1, 0, 2, 1] 1 3 4 = own_e f2 y1 y2 (own_e f1 y0 y2 (own_e f0 y0 y1 0)) := by
  have q0 : own_v2 [y0, y1, y2] [1, 0, 2, 1] y0 (1 - 0) 0 0 = (if y1 = y0 then 0 else 0 + 1) := by first | rfl | (simp [own_v2, own_o2, own_at, own_g]; done)
  have q1 : own_v2 [y0, y1, y2] [1, 0, 2, 1] y1 (3 - 1) 1 0 = (if y2 = y1 then (if y0 = y1 then 0 else 0 + 1) else (if y0 = y1 then 0 else 0 + 1) + 1) := by first | rfl | (simp [own_v2, own_o2, own_at, own_g]; done)
  have q2 : own_v2 [y0, y1, y2] [1, 0, 2, 1] y2 (4 - 3) 3 0 = (if y1 = y2 then 0 else 0 + 1) := by first | rfl | (simp [own_v2, own_o2, own_at, own_g]; done)
  rw [own_cut, q0, q1, q2]
  by_cases g01 : y0 = y1
  ·
   by_cases g12 : y1 = y2
   ·
    simp only [own_e, if_neg h0, if_pos h1, if_neg h2, if_pos g01, if_pos g01.symm, if_pos g12, if_pos g12.symm] <;> decide +kernel
   ·
    simp only [own_e, if_neg h0, if_pos h1, if_neg h2, if_pos g01, if_pos g01.symm, if_neg g12, if_neg (Ne.symm g12)] <;> decide +kernel
  ·
   by_cases g12 : y1 = y2
   ·
    simp only [own_e, if_neg h0, if_pos h1, if_neg h2, if_neg g01, if_neg (Ne.symm g01), if_pos g12, if_pos g12.symm] <;> decide +kernel
   ·
    simp only [own_e, if_neg h0, if_pos h1, if_neg h2, if_neg g01, if_neg (Ne.symm g01), if_neg g12, if_neg (Ne.symm g12)] <;> decide +kernel
theorem own_pl6 (f0 f1 f2 y0 y1 y2 : Int32) (h0 : f0 = 0) (h1 : ¬ f1 = 0) (h2 : ¬ f2 = 0) : own_cut y0 y1 y2 [2, 2, 0, 1] 1 2 4 = own_e f2 y1 y2 (own_e f1 y0 y2 (own_e f0 y0 y1 0)) := by
  have q0 : own_v2 [y0, y1, y2] [2, 2, 0, 1] y0 (1 - 0) 0 0 = (if y2 = y0 then 0 else 0 + 1) := by first | rfl | (simp [own_v2, own_o2, own_at, own_g]; done)
  have q1 : own_v2 [y0, y1, y2] [2, 2, 0, 1] y1 (2 - 1) 1 0 = (if y2 = y1 then 0 else 0 + 1) := by first | rfl | (simp [own_v2, own_o2, own_at, own_g]; done)
  have q2 : own_v2 [y0, y1, y2] [2, 2, 0, 1] y2 (4 - 2) 2 0 = (if y1 = y2 then (if y0 = y2 then 0 else 0 + 1) else (if y0 = y2 then 0 else 0 + 1) + 1) := by first | rfl | (simp [own_v2, own_o2, own_at, own_g]; done)
  rw [own_cut, q0, q1, q2]
  by_cases g02 : y0 = y2
  ·
   by_cases g12 : y1 = y2
   ·
    simp only [own_e, if_pos h0, if_neg h1, if_neg h2, if_pos g02, if_pos g02.symm, if_pos g12, if_pos g12.symm] <;> decide +kernel
   ·
    simp only [own_e, if_pos h0, if_neg h1, if_neg h2, if_pos g02, if_pos g02.symm, if_neg g12, if_neg (Ne.symm g12)] <;> decide +kernel
  ·
   by_cases g12 : y1 = y2
   ·
    simp only [own_e, if_pos h0, if_neg h1, if_neg h2, if_neg g02, if_neg (Ne.symm g02), if_pos g12, if_pos g12.symm] <;> decide +kernel
   ·
    simp only [own_e, if_pos h0, if_neg h1, if_neg h2, if_neg g02, if_neg (Ne.symm g02), if_neg g12, if_neg (Ne.symm g12)] <;> decide +kernel
theorem own_pl7 (f0 f1 f2 y0 y1 y2 : Int32) (h0 : ¬ f0 = 0) (h1 : ¬ f1 = 0) (h2 : ¬ f2 = 0) : own_cut y0 y1 y2 [1, 2, 0, 2, 0, 1] 2 4 6 = own_e f2 y1 y2 (own_e f1 y0 y2 (own_e f0 y0 y1 0)) := by
  have q0 : own_v2 [y0, y1, y2] [1, 2, 0, 2, 0, 1] y0 (2 - 0) 0 0 = (if y2 = y0 then (if y1 = y0 then 0 else 0 + 1) else (if y1 = y0 then 0 else 0 + 1) + 1) := by first | rfl | (simp [own_v2, own_o2, own_at, own_g]; done)
  have q1 : own_v2 [y0, y1, y2] [1, 2, 0, 2, 0, 1] y1 (4 - 2) 2 0 = (if y2 = y1 then (if y0 = y1 then 0 else 0 + 1) else (if y0 = y1 then 0 else 0 + 1) + 1) := by first | rfl | (simp [own_v2, own_o2, own_at, own_g]; done)
  have q2 : own_v2 [y0, y1, y2] [1, 2, 0, 2, 0, 1] y2 (6 - 4) 4 0 = (if y1 = y2 then (if y0 = y2 then 0 else 0 + 1) else (if y0 = y2 then 0 else 0 + 1) + 1) := by first | rfl | (simp [own_v2, own_o2, own_at, own_g]; done)
  rw [own_cut, q0, q1, q2]
  by_cases g01 : y0 = y1
  ·
   by_cases g02 : y0 = y2
   ·
    by_cases g12 : y1 = y2
    ·
     simp only [own_e, if_neg h0, if_neg h1, if_neg h2, if_pos g01, if_pos g01.symm, if_pos g02, if_pos g02.symm, if_pos g12, if_pos g12.symm] <;> decide +kernel
    ·
     simp only [own_e, if_neg h0, if_neg h1, if_neg h2, if_pos g01, if_pos g01.symm, if_pos g02, if_pos g02.symm, if_neg g12, if_neg (Ne.symm g12)] <;> decide +kernel
   ·
    by_cases g12 : y1 = y2
    ·
     simp only [own_e, if_neg h0, if_neg h1, if_neg h2, if_pos g01, if_pos g01.symm, if_neg g02, if_neg (Ne.symm g02), if_pos g12, if_pos g12.symm] <;> decide +kernel
    ·
     simp only [own_e, if_neg h0, if_neg h1, if_neg h2, if_pos g01, if_pos g01.symm, if_neg g02, if_neg (Ne.symm g02), if_neg g12, if_neg (Ne.symm g12)] <;> decide +kernel
  ·
   by_cases g02 : y0 = y2
   ·
    by_cases g12 : y1 = y2
    ·
     simp only [own_e, if_neg h0, if_neg h1, if_neg h2, if_neg g01, if_neg (Ne.symm g01), if_pos g02, if_pos g02.symm, if_pos g12, if_pos g12.symm] <;> decide +kernel
    ·
     simp only [own_e, if_neg h0, if_neg h1, if_neg h2, if_neg g01, if_neg (Ne.symm g01), if_pos g02, if_pos g02.symm, if_neg g12, if_neg (Ne.symm g12)] <;> decide +kernel
   ·
    by_cases g12 : y1 = y2
    ·
     simp only [own_e, if_neg h0, if_neg h1, if_neg h2, if_neg g01, if_neg (Ne.symm g01), if_neg g02, if_neg (Ne.symm g02), if_pos g12, if_pos g12.symm] <;> decide +kernel
    ·
     simp only [own_e, if_neg h0, if_neg h1, if_neg h2, if_neg g01, if_neg (Ne.symm g01), if_neg g02, if_neg (Ne.symm g02), if_neg g12, if_neg (Ne.symm g12)] <;> decide +kernel
theorem own_pn7 : plainName "kombos/query/CellRefinementCutWeightPinLaw" = true := by first | (simp [plainName, overriddenIn]; done) | decide +kernel
theorem own_pd17 : parseMethodDescriptor "(Z)V" = some ⟨[.boolean], none⟩ := by decide +kernel
theorem own_pd18 : parseMethodDescriptor "(J)V" = some ⟨[.long], none⟩ := by decide +kernel
theorem own_pd19 : parseMethodDescriptor "(Lkombos/graph/Graph;)Lkombos/query/SimpleGraph;" = some ⟨[(.object "kombos/graph/Graph")], some (.object "kombos/query/SimpleGraph")⟩ := by decide +kernel
theorem own_pd20 : parseMethodDescriptor "(II)V" = some ⟨[.int, .int], none⟩ := by decide +kernel
theorem own_pd21 : parseMethodDescriptor "(Lkombos/query/SimpleGraph;[I)V" = some ⟨[(.object "kombos/query/SimpleGraph"), (.array .int)], none⟩ := by decide +kernel
theorem own_pd22 : parseMethodDescriptor "()Lkombos/graph/Graph;" = some ⟨[], some (.object "kombos/graph/Graph")⟩ := by decide +kernel
theorem own_pd23 : parseMethodDescriptor "(JJ)V" = some ⟨[.long, .long], none⟩ := by decide +kernel
theorem own_ef_own_rm0 (m : MethodId) (x0 : Int32) (x1 : Int32) (x2 : Int32) : entryFrame m #[(.int x0), (.int x1), (.int x2)] maxLocals = mkF m 0 #[iv x0, iv x1, iv x2, .unset, .unset, .unset, .unset, .unset, .unset, .unset, .unset, .unset, .unset, .unset] [] := by first | (simp [entryFrame, mkF, argsToLocals, Value.category, maxLocals]; done) | rfl
def own_Q_own_rm0 (Z : State) (x0 : Int32) (x1 : Int32) (x2 : Int32) (h0 : Heap) (n0 : Nat) (v : Option Value) (h : Heap) : Prop := v = some (.int 1)
set_option maxRecDepth 65536 in
set_option maxHeartbeats 40000000 in
theorem own_rm0 (l : Launch) (Z : State) (a0 : Array Value) (hw : ∀ d ∈ tables_1, d.before a0 Z = true) (ws : List Jvm.Cond) (x0 : Int32) (x1 : Int32) (x2 : Int32) (el : Addr) (h0 : Heap) (n0 : Nat) (Z0 : n0 ≤ h0.size) (HE : Sta Z h0 "java/util/ImmutableCollections" "EMPTY_LIST" "Ljava/util/ImmutableCollections$ListN;" (.ref el)) :
    own_Con l Z x code maxLocals ret ws room_1 #[(.int x0), (.int x1), (.int x2)] h0 n0 (own_Q_own_rm0 Z x0 x1 x2 h0 n0) := by
  refine own_body (plainFor_of_name own_pn7) ?_
  intro p e s m below meth c T0 hx hZ hby hml hown hnm hret hlk Y0
  replace hown : s.vm.findClass "kombos/query/CellRefinementCutWeightPinLaw" = some m.cls := hown
  replace hml : c.maxLocals = 14 := hml
  replace hret : meth.sig.returnType = some .boolean := hret
  rw [own_ef_own_rm0 m x0 x1 x2]
  show own_Ends _ _ _ _ (T0.setTop (mkF m 0 #[iv x0, iv x1, iv x2, .unset, .unset, .unset, .unset, .unset, .unset, .unset, .unset, .unset, .unset, .unset] []))
  refine o_iloadN Y0 hx hby at_0 rfl ?_
  refine o_iconst Y0 hx hby at_1 (x := 1) rfl ?_
  refine o_iand Y0 hx hby at_2 rfl rfl ?_
  show own_Ends _ _ _ _ (T0.setTop (mkF m 3 #[iv x0, iv x1, iv x2, .unset, .unset, .unset, .unset, .unset, .unset, .unset, .unset, .unset, .unset, .unset] [(.int (x0 &&& (1 : Int32)))]))
  have hJ3847 : ∀ (T3848 : State)  (f0 : Int32) (Y3849 : own_S p l e room_1 s m #[(.int x0), (.int x1), (.int x2)] below meth c n0 T3848 h0 0 0)  , own_Ends p.tables e below (own_P s n0 (own_Q_own_rm0 Z x0 x1 x2 h0 n0) room_1.cells room_1.slots) (T3848.setTop (mkF m 11 #[iv x0, iv x1, iv x2, .unset, .unset, .unset, .unset, .unset, .unset, .unset, .unset, .unset, .unset, .unset] [(.int f0)])) := by
   intro T3848  f0 Y3849  
   refine o_istoreN Y3849 hx hby at_11 rfl (l' := #[iv x0, iv x1, iv x2, iv f0, .unset, .unset, .unset, .unset, .unset, .unset, .unset, .unset, .unset, .unset]) rfl ?_
   refine o_iloadN Y3849 hx hby at_12 rfl ?_
   refine o_iconst Y3849 hx hby at_13 (x := 2) rfl ?_
   refine o_iand Y3849 hx hby at_14 rfl rfl ?_
   show own_Ends _ _ _ _ (T3848.setTop (mkF m 15 #[iv x0, iv x1, iv x2, iv f0, .unset, .unset, .unset, .unset, .unset, .unset, .unset, .unset, .unset, .unset] [(.int (x0 &&& (2 : Int32)))]))
   have hJ3850 : ∀ (T3851 : State)  (f1 : Int32) (Y3852 : own_S p l e room_1 s m #[(.int x0), (.int x1), (.int x2)] below meth c n0 T3851 h0 0 0)  , own_Ends p.tables e below (own_P s n0 (own_Q_own_rm0 Z x0 x1 x2 h0 n0) room_1.cells room_1.slots) (T3851.setTop (mkF m 23 #[iv x0, iv x1, iv x2, iv f0, .unset, .unset, .unset, .unset, .unset, .unset, .unset, .unset, .unset, .unset] [(.int f1)])) := by
    intro T3851  f1 Y3852  
    refine o_istore Y3852 hx hby at_23 rfl (l' := #[iv x0, iv x1, iv x2, iv f0, iv f1, .unset, .unset, .unset, .unset, .unset, .unset, .unset, .unset, .unset]) rfl ?_
    refine o_iloadN Y3852 hx hby at_25 rfl ?_
    refine o_iconst Y3852 hx hby at_26 (x := 4) rfl ?_
    refine o_iand Y3852 hx hby at_27 rfl rfl ?_
    show own_Ends _ _ _ _ (T3851.setTop (mkF m 28 #[iv x0, iv x1, iv x2, iv f0, iv f1, .unset, .unset, .unset, .unset, .unset, .unset, .unset, .unset, .unset] [(.int (x0 &&& (4 : Int32)))]))
    have hJ3853 : ∀ (T3854 : State)  (f2 : Int32) (Y3855 : own_S p l e room_1 s m #[(.int x0), (.int x1), (.int x2)] below meth c n0 T3854 h0 0 0)  , own_Ends p.tables e below (own_P s n0 (own_Q_own_rm0 Z x0 x1 x2 h0 n0) room_1.cells room_1.slots) (T3854.setTop (mkF m 36 #[iv x0, iv x1, iv x2, iv f0, iv f1, .unset, .unset, .unset, .unset, .unset, .unset, .unset, .unset, .unset] [(.int f2)])) := by
     intro T3854  f2 Y3855  
     refine o_istore Y3855 hx hby at_36 rfl (l' := #[iv x0, iv x1, iv x2, iv f0, iv f1, iv f2, .unset, .unset, .unset, .unset, .unset, .unset, .unset, .unset]) rfl ?_
     refine o_iloadN Y3855 hx hby at_38 rfl ?_
     refine o_iconst Y3855 hx hby at_39 (x := 3) rfl ?_
     refine o_iand Y3855 hx hby at_40 rfl rfl ?_
     refine o_istore Y3855 hx hby at_41 rfl (l' := #[iv x0, iv x1, iv x2, iv f0, iv f1, iv f2, iv (x1 &&& (3 : Int32)), .unset, .unset, .unset, .unset, .unset, .unset, .unset]) rfl ?_
     refine o_iloadN Y3855 hx hby at_43 rfl ?_
     refine o_iconst Y3855 hx hby at_44 (x := 2) rfl ?_
     refine own_st (fun t_ => XS.iushr (own_here Y3855) hx rfl (hb hby at_45) rfl) ?_
     show own_Ends _ _ _ _ (T3854.setTop (mkF m 46 #[iv x0, iv x1, iv x2, iv f0, iv f1, iv f2, iv (x1 &&& (3 : Int32)), .unset, .unset, .unset, .unset, .unset, .unset, .unset] [(.int ((x1.toUInt32 >>> ((2 : Int32) &&& 31).toUInt32).toInt32))]))
     refine o_iconst Y3855 hx hby at_46 (x := 3) rfl ?_
     refine o_iand Y3855 hx hby at_47 rfl rfl ?_
     refine o_istore Y3855 hx hby at_48 rfl (l' := #[iv x0, iv x1, iv x2, iv f0, iv f1, iv f2, iv (x1 &&& (3 : Int32)), iv (((x1.toUInt32 >>> ((2 : Int32) &&& 31).toUInt32).toInt32) &&& (3 : Int32)), .unset, .unset, .unset, .unset, .unset, .unset]) rfl ?_
     refine o_iloadN Y3855 hx hby at_50 rfl ?_
     refine o_iconst Y3855 hx hby at_51 (x := 4) rfl ?_
     refine own_st (fun t_ => XS.iushr (own_here Y3855) hx rfl (hb hby at_52) rfl) ?_
     show own_Ends _ _ _ _ (T3854.setTop (mkF m 53 #[iv x0, iv x1, iv x2, iv f0, iv f1, iv f2, iv (x1 &&& (3 : Int32)), iv (((x1.toUInt32 >>> ((2 : Int32) &&& 31).toUInt32).toInt32) &&& (3 : Int32)), .unset, .unset, .unset, .unset, .unset, .unset] [(.int ((x1.toUInt32 >>> ((4 : Int32) &&& 31).toUInt32).toInt32))]))
     refine o_iconst Y3855 hx hby at_53 (x := 3) rfl ?_
     refine o_iand Y3855 hx hby at_54 rfl rfl ?_
     refine o_istore Y3855 hx hby at_55 rfl (l' := #[iv x0, iv x1, iv x2, iv f0, iv f1, iv f2, iv (x1 &&& (3 : Int32)), iv (((x1.toUInt32 >>> ((2 : Int32) &&& 31).toUInt32).toInt32) &&& (3 : Int32)), iv (((x1.toUInt32 >>> ((4 : Int32) &&& 31).toUInt32).toInt32) &&& (3 : Int32)), .unset, .unset, .unset, .unset, .unset]) rfl ?_
     show own_Ends _ _ _ _ (T3854.setTop (mkF m 57 #[iv x0, iv x1, iv x2, iv f0, iv f1, iv f2, iv (x1 &&& (3 : Int32)), iv (((x1.toUInt32 >>> ((2 : Int32) &&& 31).toUInt32).toInt32) &&& (3 : Int32)), iv (((x1.toUInt32 >>> ((4 : Int32) &&& 31).toUInt32).toInt32) &&& (3 : Int32)), .unset, .unset, .unset, .unset, .unset] []))
     generalize hg0 : (x1 &&& (3 : Int32)) = y0
     have hy0 : 0 ≤ y0.toInt ∧ y0.toInt ≤ 3 := by rw [← hg0]; exact own_and3 _
     generalize hg1 : (((x1.toUInt32 >>> ((2 : Int32) &&& 31).toUInt32).toInt32) &&& (3 : Int32)) = y1
     have hy1 : 0 ≤ y1.toInt ∧ y1.toInt ≤ 3 := by rw [← hg1]; exact own_and3 _
     generalize hg2 : (((x1.toUInt32 >>> ((4 : Int32) &&& 31).toUInt32).toInt32) &&& (3 : Int32)) = y2
     have hy2 : 0 ≤ y2.toInt ∧ y2.toInt ≤ 3 := by rw [← hg2]; exact own_and3 _
     show own_Ends _ _ _ _ (T3854.setTop (mkF m 57 #[iv x0, iv x1, iv x2, iv f0, iv f1, iv f2, iv y0, iv y1, iv y2, .unset, .unset, .unset, .unset, .unset] []))
     refine own_new Y3855 hx hZ hown (own_w hw 0 rfl) (own_w hw 1 rfl) (own_w hw 2 rfl) rfl (hb hby at_57) (by decide) (by decide) (fun T3856 h3858 b3862 eb3863 Y3857 E3859 X3860 D3861 => ?_)
     have g3864 : n0 ≤ b3862 := by rw [eb3863]; exact Z0
     have F3865 : Fld Z h3858 b3862 "kombos/graph/Graph$Builder" "sources" "[[I" .null := D3861 _ _ _ (.array (.array .int)) (Or.inl (own_w hw 17 rfl)) (by decide)
     have F3866 : Fld Z h3858 b3862 "kombos/graph/Graph$Builder" "targets" "[[I" .null := D3861 _ _ _ (.array (.array .int)) (Or.inl (own_w hw 19 rfl)) (by decide)
     have F3867 : Fld Z h3858 b3862 "kombos/graph/Graph$Builder" "vertexColumns" "Ljava/util/List;" .null := D3861 _ _ _ (.object "java/util/List") (Or.inl (own_w hw 27 rfl)) (by decide)
     have F3868 : Fld Z h3858 b3862 "kombos/graph/Graph$Builder" "edgeColumns" "Ljava/util/List;" .null := D3861 _ _ _ (.object "java/util/List") (Or.inl (own_w hw 29 rfl)) (by decide)
     have F3869 : Fld Z h3858 b3862 "kombos/graph/Graph$Builder" "directed" "Z" (.int 0) := D3861 _ _ _ .boolean (Or.inr (own_w hw 31 rfl)) (by decide)
     have F3870 : Fld Z h3858 b3862 "kombos/graph/Graph$Builder" "maxVertices" "I" (.int 0) := D3861 _ _ _ .int (Or.inr (own_w hw 33 rfl)) (by decide)
     have F3871 : Fld Z h3858 b3862 "kombos/graph/Graph$Builder" "index" "Lkombos/graph/IdIndex;" .null := D3861 _ _ _ (.object "kombos/graph/IdIndex") (Or.inr (own_w hw 44 rfl)) (by decide)
     have F3872 : Fld Z h3858 b3862 "kombos/graph/Graph$Builder" "maxEdges" "I" (.int 0) := D3861 _ _ _ .int (Or.inr (own_w hw 46 rfl)) (by decide)
     have F3873 : Fld Z h3858 b3862 "kombos/graph/Graph$Builder" "keys" "Lkombos/graph/KeyIndex;" .null := D3861 _ _ _ (.object "kombos/graph/KeyIndex") (Or.inl (own_w hw 57 rfl)) (by decide)
     have F3874 : Fld Z h3858 b3862 "kombos/graph/Graph$Builder" "edgeCount" "I" (.int 0) := D3861 _ _ _ .int (Or.inl (own_w hw 98 rfl)) (by decide)
     have F3875 : Fld Z h3858 b3862 "kombos/graph/Graph$Builder" "weights" "[[J" .null := D3861 _ _ _ (.array (.array .long)) (Or.inl (own_w hw 101 rfl)) (by decide)
     have F3876 : Fld Z h3858 b3862 "kombos/graph/Graph$Builder" "decimal" "Z" (.int 0) := D3861 _ _ _ .boolean (Or.inl (own_w hw 137 rfl)) (by decide)
     show own_Ends _ _ _ _ (T3856.setTop (mkF m 60 #[iv x0, iv x1, iv x2, iv f0, iv f1, iv f2, iv y0, iv y1, iv y2, .unset, .unset, .unset, .unset, .unset] [(.ref b3862)]))
     refine o_dup Y3857 hx hby at_60 rfl rfl ?_
     refine o_iconst Y3857 hx hby at_61 (x := 0) rfl ?_
     have f3877 := HE.ext E3859
     have z3878 : n0 ≤ h3858.size := Nat.le_trans Z0 E3859.1
     refine own_callN Y3857 hx hZ (y := (⟨"kombos/graph/Graph$Builder", "<init>", "(Z)V"⟩ : MethodName)) rfl hown (own_w hw 3 rfl) (own_w hw 4 rfl) (own_w hw 2 rfl) (own_w hw 5 rfl) (by decide) (a := b3862) (argsL := [(.int 0)]) (rest := [(.ref b3862)]) (own_rm1 l Z a0 hw [] b3862 el h3858 n0 z3878 X3860 F3865 F3866 F3867 F3868 F3869 F3870 F3871 F3872 F3873 F3874 F3875 F3876 f3877 g3864) (W := 1) (by decide) (by decide) (by decide) (by decide) rfl (by rw [hml]; rfl) (lenOf own_pd17 rfl) rfl (by show 2 * 0 + _ ≤ _; exact Nat.le_of_eq rfl) (hb hby at_62) (fun T3879 h3881 v3882 Y3880 q3883 => ?_)
     obtain ⟨sa, ta, ix, rfl, K3884, F3885, F3886, F3887, F3888, F3889, F3890, F3891, F3892, F3893, F3894, F3895, F3896, F3897, F3905, F3906, F3907, F3908, F3898, F3899, F3900, F3901, F3902, F3903, F3904, hz3909, hz3910, hz3911, ne3912, ne3913, ne3914⟩ := q3883
     have ne3915 : b3862 ≠ sa := Nat.ne_of_lt (Nat.lt_of_lt_of_le X3860.lt hz3909)
     have g3916 : n0 ≤ sa := Nat.le_trans z3878 hz3909
     have ne3917 : b3862 ≠ ta := Nat.ne_of_lt (Nat.lt_of_lt_of_le X3860.lt hz3910)
     have g3918 : n0 ≤ ta := Nat.le_trans z3878 hz3910
     have ne3919 : b3862 ≠ ix := Nat.ne_of_lt (Nat.lt_of_lt_of_le X3860.lt hz3911)
     have g3920 : n0 ≤ ix := Nat.le_trans z3878 hz3911
     show own_Ends _ _ _ _ (T3879.setTop (mkF m 65 #[iv x0, iv x1, iv x2, iv f0, iv f1, iv f2, iv y0, iv y1, iv y2, .unset, .unset, .unset, .unset, .unset] [(.ref b3862)]))
     refine o_astore Y3880 hx hby at_65 rfl rfl (l' := #[iv x0, iv x1, iv x2, iv f0, iv f1, iv f2, iv y0, iv y1, iv y2, rv b3862, .unset, .unset, .unset, .unset]) rfl ?_
     refine o_aload Y3880 hx hby at_67 rfl rfl ?_
     refine own_st (fun t_ => XS.lconst (own_here Y3880) hx rfl (hb hby at_69) ) ?_
     show own_Ends _ _ _ _ (T3879.setTop (mkF m 70 #[iv x0, iv x1, iv x2, iv f0, iv f1, iv f2, iv y0, iv y1, iv y2, rv b3862, .unset, .unset, .unset, .unset] [(.long 0), (.ref b3862)]))
     refine own_callV Y3880 hx hZ (y := (⟨"kombos/graph/Graph$Builder", "addVertex", "(J)V"⟩ : MethodName)) (z := (⟨"kombos/graph/Graph$Builder", "addVertex", "(J)V"⟩ : MethodName)) hown (own_w hw 47 rfl) (own_w hw 48 rfl) (notFace_of_selects (args := #[]) (mvT hZ (own_w hw 50 rfl))) (own_w hw 50 rfl) (own_w hw 49 rfl) (own_w hw 2 rfl) (own_w hw 51 rfl) (by decide) (a := b3862) F3885 (argsL := [(.long 0)]) (rest := []) (own_rm6_0 l Z a0 hw [] b3862 ix h3881 n0  F3885 F3892 F3894 F3898 F3899 F3900 F3901 F3902 F3903 F3904 g3920) (W := 0) (by decide) (by decide) (by decide) (by decide) rfl (by rw [hml]; rfl) (lenOf own_pd18 rfl) rfl (by show 2 * 0 + _ ≤ _; exact Nat.le_of_eq rfl) (hb hby at_70) (fun T3921 h3923 v3924 Y3922 q3925 => ?_)
     obtain ⟨rfl, K3926, F3927, F3928, F3929, F3930, F3931, F3932, F3933⟩ := q3925
     show own_Ends _ _ _ _ (T3921.setTop (mkF m 73 #[iv x0, iv x1, iv x2, iv f0, iv f1, iv f2, iv y0, iv y1, iv y2, rv b3862, .unset, .unset, .unset, .unset] []))
     refine o_aload Y3922 hx hby at_73 rfl rfl ?_
     refine own_st (fun t_ => XS.lconst (own_here Y3922) hx rfl (hb hby at_75) ) ?_
     show own_Ends _ _ _ _ (T3921.setTop (mkF m 76 #[iv x0, iv x1, iv x2, iv f0, iv f1, iv f2, iv y0, iv y1, iv y2, rv b3862, .unset, .unset, .unset, .unset] [(.long 1), (.ref b3862)]))
     have f3934 := F3885.keep K3926
     have f3935 := F3892.keep K3926 (ninS ne3919 nin0)
     have f3936 := F3894.keep K3926 (ninS ne3919 nin0)
     refine own_callV Y3922 hx hZ (y := (⟨"kombos/graph/Graph$Builder", "addVertex", "(J)V"⟩ : MethodName)) (z := (⟨"kombos/graph/Graph$Builder", "addVertex", "(J)V"⟩ : MethodName)) hown (own_w hw 47 rfl) (own_w hw 48 rfl) (notFace_of_selects (args := #[]) (mvT hZ (own_w hw 50 rfl))) (own_w hw 50 rfl) (own_w hw 49 rfl) (own_w hw 2 rfl) (own_w hw 51 rfl) (by decide) (a := b3862) f3934 (argsL := [(.long 1)]) (rest := []) (own_rm6_1 l Z a0 hw [] b3862 ix h3923 n0  f3934 f3935 f3936 F3927 F3928 F3929 F3930 F3931 F3932 F3933 g3920) (W := 0) (by decide) (by decide) (by decide) (by decide) rfl (by rw [hml]; rfl) (lenOf own_pd18 rfl) rfl (by show 2 * 0 + _ ≤ _; exact Nat.le_of_eq rfl) (hb hby at_76) (fun T3937 h3939 v3940 Y3938 q3941 => ?_)
     obtain ⟨rfl, K3942, F3943, F3944, F3945, F3946, F3947, F3948, F3949⟩ := q3941
     show own_Ends _ _ _ _ (T3937.setTop (mkF m 79 #[iv x0, iv x1, iv x2, iv f0, iv f1, iv f2, iv y0, iv y1, iv y2, rv b3862, .unset, .unset, .unset, .unset] []))
     refine o_aload Y3938 hx hby at_79 rfl rfl ?_
     refine own_ldcJ Y3938 hx hZ hown (own_w hw 86 rfl) rfl (hb hby at_81) ?_
     show own_Ends _ _ _ _ (T3937.setTop (mkF m 84 #[iv x0, iv x1, iv x2, iv f0, iv f1, iv f2, iv y0, iv y1, iv y2, rv b3862, .unset, .unset, .unset, .unset] [(.long 2), (.ref b3862)]))
     have f3950 := f3934.keep K3942
     have f3951 := f3935.keep K3942 (ninS ne3919 nin0)
     have f3952 := f3936.keep K3942 (ninS ne3919 nin0)
     refine own_callV Y3938 hx hZ (y := (⟨"kombos/graph/Graph$Builder", "addVertex", "(J)V"⟩ : MethodName)) (z := (⟨"kombos/graph/Graph$Builder", "addVertex", "(J)V"⟩ : MethodName)) hown (own_w hw 47 rfl) (own_w hw 48 rfl) (notFace_of_selects (args := #[]) (mvT hZ (own_w hw 50 rfl))) (own_w hw 50 rfl) (own_w hw 49 rfl) (own_w hw 2 rfl) (own_w hw 51 rfl) (by decide) (a := b3862) f3950 (argsL := [(.long 2)]) (rest := []) (own_rm6_2 l Z a0 hw [] b3862 ix h3939 n0  f3950 f3951 f3952 F3943 F3944 F3945 F3946 F3947 F3948 F3949 g3920) (W := 0) (by decide) (by decide) (by decide) (by decide) rfl (by rw [hml]; rfl) (lenOf own_pd18 rfl) rfl (by show 2 * 0 + _ ≤ _; exact Nat.le_of_eq rfl) (hb hby at_84) (fun T3953 h3955 v3956 Y3954 q3957 => ?_)
     obtain ⟨rfl, K3958, F3959, F3960, F3961, F3962, F3963, F3964, F3965⟩ := q3957
     show own_Ends _ _ _ _ (T3953.setTop (mkF m 87 #[iv x0, iv x1, iv x2, iv f0, iv f1, iv f2, iv y0, iv y1, iv y2, rv b3862, .unset, .unset, .unset, .unset] []))
     have hJ3966 : ∀ (T3967 : State) (h3969 : Heap) (gr ea ga : Addr) (GG sn01 sn02 sn03 sn11 sn12 sn13 xn1 xn2 xn3 bn1 bn2 bn3 : List Int32) (e0 e1 e2 n00 n01 n02 n10 n11 n12 u00 u01 u02 u10 u11 u12 ln2 : Int32) (l0 l1 l2 mm2 : Nat) (w0 w1 w2 : Nat) (Y3968 : own_S p l e room_1 s m #[(.int x0), (.int x1), (.int x2)] below meth c n0 T3967 h3969 9 16456) (z3970 : n0 ≤ h3969.size) (f3971 : Exa Z h3969 gr "kombos/graph/Graph") (f3972 : Fld Z h3969 gr "kombos/graph/Graph" "index" "Lkombos/graph/IdIndex;" (.ref ix)) (f3973 : Fld Z h3969 gr "kombos/graph/Graph" "directed" "Z" (.int 0)) (f3974 : Fld Z h3969 gr "kombos/graph/Graph" "edgeStart" "[I" (.ref ea)) (f3975 : Fld Z h3969 gr "kombos/graph/Graph" "edgeTarget" "[I" (.ref ga)) (f3976 : own_A Z h3969 ea .int [(.int 0), (.int e0), (.int e1), (.int e2)]) (f3977 : own_A Z h3969 ga .int (GG.map Value.int)) (f3978 : Exa Z h3969 ix "kombos/graph/IdIndex") (f3979 : Fld Z h3969 ix "kombos/graph/IdIndex" "size" "I" (.int 3)) (hl0 : e0.toInt = (l0 : Int)) (hl1 : e1.toInt = (l1 : Int)) (hl2 : e2.toInt = (l2 : Int)) (ho1 : l0 ≤ l1) (ho2 : l1 ≤ l2) (ho6 : l2 ≤ 6) (ls01 : sn01.length = 3) (ls02 : sn02.length = 3) (ls11 : sn11.length = 3) (ls12 : sn12.length = 3) (ls03 : sn03.length = 3) (M00 : own_i0 GG (0 : Int32) (l0 - 0) 0 (([(-1 : Int32), (-1 : Int32), (-1 : Int32)]).set 0 (0 : Int32)) 0 = some (sn01, n00)) (M10 : own_i1 GG (0 : Int32) (l0 - 0) 0 (([(-1 : Int32), (-1 : Int32), (-1 : Int32)]).set 0 (0 : Int32)) [(0 : Int32), u00, u01] (List.replicate mm2 (0 : Int32)) 0 = some (sn11, xn1, bn1, n10)) (M01 : own_i0 GG (1 : Int32) (l1 - l0) l0 (sn01.set 1 (1 : Int32)) 0 = some (sn02, n01)) (M11 : own_i1 GG (1 : Int32) (l1 - l0) l0 (sn11.set 1 (1 : Int32)) xn1 bn1 0 = some (sn12, xn2, bn2, n11)) (M02 : own_i0 GG (2 : Int32) (l2 - l1) l1 (sn02.set 2 (2 : Int32)) 0 = some (sn03, n02)) (M12 : own_i1 GG (2 : Int32) (l2 - l1) l1 (sn12.set 2 (2 : Int32)) xn2 bn2 0 = some (sn13, xn3, bn3, n12)) (hu00 : (own_minL ((0 : Int64) + (n00.toInt64)) (2147483647 : Int64)).toInt32 = u00) (hu01 : (own_minL (((0 : Int64) + (n00.toInt64)) + (n01.toInt64)) (2147483647 : Int64)).toInt32 = u01) (hu02 : (own_minL ((((0 : Int64) + (n00.toInt64)) + (n01.toInt64)) + (n02.toInt64)) (2147483647 : Int64)).toInt32 = u02) (hen0 : ((((0 : Int64) + (n00.toInt64)) + (n01.toInt64)) + (n02.toInt64)).toInt ≤ 6) (hu10 : (own_minL ((0 : Int64) + (n10.toInt64)) (2147483647 : Int64)).toInt32 = u10) (hu11 : (own_minL (((0 : Int64) + (n10.toInt64)) + (n11.toInt64)) (2147483647 : Int64)).toInt32 = u11) (hu12 : (own_minL ((((0 : Int64) + (n10.toInt64)) + (n11.toInt64)) + (n12.toInt64)) (2147483647 : Int64)).toInt32 = u12) (hen1 : ((((0 : Int64) + (n10.toInt64)) + (n11.toInt64)) + (n12.toInt64)).toInt ≤ 6) (hmm : (((((0 : Int64) + (n00.toInt64)) + (n01.toInt64)) + (n02.toInt64)).toInt32).toInt = (mm2 : Int)) (hmm6 : mm2 ≤ 6) (hln2 : ln2.toInt = (mm2 : Int)) (hbl : ln2.toInt = (bn3.length : Int)) (hv0 : u10.toInt = (w0 : Int)) (hv1 : u11.toInt = (w1 : Int)) (hv2 : u12.toInt = (w2 : Int)) (hq1 : w0 ≤ w1) (hq2 : w1 ≤ w2) (hq6 : w2 ≤ 6) (HC0 : own_k2 bn3 (w0 - 0) 0 = true) (HC1 : own_k2 bn3 (w1 - w0) w0 = true) (HC2 : own_k2 bn3 (w2 - w1) w1 = true) (hbm : bn3.length = mm2) (hpl : own_cut y0 y1 y2 bn3 w0 w1 w2 = own_e f2 y1 y2 (own_e f1 y0 y2 (own_e f0 y0 y1 0))), own_Ends p.tables e below (own_P s n0 (own_Q_own_rm0 Z x0 x1 x2 h0 n0) room_1.cells room_1.slots) (T3967.setTop (mkF m 131 #[iv x0, iv x1, iv x2, iv f0, iv f1, iv f2, iv y0, iv y1, iv y2, rv b3862, .unset, .unset, .unset, .unset] [(.ref gr)])) := by
      intro T3967 h3969 gr ea ga GG sn01 sn02 sn03 sn11 sn12 sn13 xn1 xn2 xn3 bn1 bn2 bn3 e0 e1 e2 n00 n01 n02 n10 n11 n12 u00 u01 u02 u10 u11 u12 ln2 l0 l1 l2 mm2 w0 w1 w2 Y3968 z3970 f3971 f3972 f3973 f3974 f3975 f3976 f3977 f3978 f3979 hl0 hl1 hl2 ho1 ho2 ho6 ls01 ls02 ls11 ls12 ls03 M00 M10 M01 M11 M02 M12 hu00 hu01 hu02 hen0 hu10 hu11 hu12 hen1 hmm hmm6 hln2 hbl hv0 hv1 hv2 hq1 hq2 hq6 HC0 HC1 HC2 hbm hpl
      refine own_callS Y3968 hx hZ (y := (⟨"kombos/query/SimpleGraph", "under", "(Lkombos/graph/Graph;)Lkombos/query/SimpleGraph;"⟩ : MethodName)) hown (own_w hw 146 rfl) (own_w hw 147 rfl) (own_w hw 148 rfl) (own_w hw 149 rfl) (by decide) (argsL := [(.ref gr)]) (rest := []) (own_rm16 l Z a0 hw [] gr ea ga ix GG sn01 sn02 sn03 sn11 sn12 sn13 xn1 xn2 xn3 bn1 bn2 bn3 e0 e1 e2 n00 n01 n02 n10 n11 n12 u00 u01 u02 u10 u11 u12 ln2 l0 l1 l2 mm2 h3969 n0 z3970 f3971 f3972 f3973 f3974 f3975 f3978 f3979 f3976 f3977 hl0 hl1 hl2 ho1 ho2 ho6 ls01 ls02 ls11 ls12 ls03 M00 M10 M01 M11 M02 M12 hu00 hu01 hu02 hen0 hu10 hu11 hu12 hen1 hmm hmm6 hln2 hbl) (W := 0) (by decide) (by decide) (by decide) (by decide) rfl (by rw [hml]; rfl) (lenOf own_pd19 rfl) rfl (by show 2 * 0 + _ ≤ _; exact Nat.le_of_eq rfl) (hb hby at_131) (fun T3980 h3982 v3983 Y3981 q3984 => ?_)
      obtain ⟨sg, esa, nba, ewa, vwa, rfl, z3985, F3986, F3987, F3988, F3989, F3990, F3991, F3992, F3993, F3994⟩ := q3984
      show own_Ends _ _ _ _ (T3980.setTop (mkF m 134 #[iv x0, iv x1, iv x2, iv f0, iv f1, iv f2, iv y0, iv y1, iv y2, rv b3862, .unset, .unset, .unset, .unset] [(.ref sg)]))
      refine o_astore Y3981 hx hby at_134 rfl rfl (l' := #[iv x0, iv x1, iv x2, iv f0, iv f1, iv f2, iv y0, iv y1, iv y2, rv b3862, rv sg, .unset, .unset, .unset]) rfl ?_
      refine o_iconst Y3981 hx hby at_136 (x := 3) rfl ?_
      refine own_newP Y3981 hx hZ (own_w hw 99 rfl) rfl (hb hby at_137) rfl (by decide) (nz := 3) (cap := 3) (by decide) (by decide) (by decide) (by decide) (by decide) (ty := .int) rfl (fun T3995 h3997 b4000 eb4001 Y3996 E3998 A3999 => ?_)
      have ne4002 : sg ≠ b4000 := Nat.ne_of_lt (by rw [eb4001]; exact F3986.lt)
      have ne4003 : esa ≠ b4000 := Nat.ne_of_lt (by rw [eb4001]; exact F3991.lt)
      have ne4004 : nba ≠ b4000 := Nat.ne_of_lt (by rw [eb4001]; exact F3992.lt)
      have ne4005 : ewa ≠ b4000 := Nat.ne_of_lt (by rw [eb4001]; exact F3993.lt)
      have ne4006 : vwa ≠ b4000 := Nat.ne_of_lt (by rw [eb4001]; exact F3994.lt)
      have g4007 : n0 ≤ b4000 := by rw [eb4001]; exact z3985
      replace A3999 : own_A Z h3997 b4000 .int [(.int 0), (.int 0), (.int 0)] := A3999
      show own_Ends _ _ _ _ (T3995.setTop (mkF m 139 #[iv x0, iv x1, iv x2, iv f0, iv f1, iv f2, iv y0, iv y1, iv y2, rv b3862, rv sg, .unset, .unset, .unset] [(.ref b4000)]))
      refine o_dup Y3996 hx hby at_139 rfl rfl ?_
      refine o_iconst Y3996 hx hby at_140 (x := 0) rfl ?_
      refine o_iload Y3996 hx hby at_141 rfl ?_
      refine p_stI Y3996 hx hZ A3999 g4007 (i := 0) (by decide) (by decide) (Nat.le_of_ble_eq_true rfl) hby rfl at_143 (fun T4008 h4010 Y4009 W4011 A4012 => ?_)
      replace A4012 : own_A Z h4010 b4000 .int [(.int y0), (.int 0), (.int 0)] := A4012
      refine o_dup Y4009 hx hby at_144 rfl rfl ?_
      refine o_iconst Y4009 hx hby at_145 (x := 1) rfl ?_
      refine o_iload Y4009 hx hby at_146 rfl ?_
      refine p_stI Y4009 hx hZ A4012 g4007 (i := 1) (by decide) (by decide) (Nat.le_of_ble_eq_true rfl) hby rfl at_148 (fun T4013 h4015 Y4014 W4016 A4017 => ?_)
      replace A4017 : own_A Z h4015 b4000 .int [(.int y0), (.int y1), (.int 0)] := A4017
      refine o_dup Y4014 hx hby at_149 rfl rfl ?_
      refine o_iconst Y4014 hx hby at_150 (x := 2) rfl ?_
      refine o_iload Y4014 hx hby at_151 rfl ?_
      refine p_stI Y4014 hx hZ A4017 g4007 (i := 2) (by decide) (by decide) (Nat.le_of_ble_eq_true rfl) hby rfl at_153 (fun T4018 h4020 Y4019 W4021 A4022 => ?_)
      replace A4022 : own_A Z h4020 b4000 .int [(.int y0), (.int y1), (.int y2)] := A4022
      refine o_astore Y4019 hx hby at_154 rfl rfl (l' := #[iv x0, iv x1, iv x2, iv f0, iv f1, iv f2, iv y0, iv y1, iv y2, rv b3862, rv sg, rv b4000, .unset, .unset]) rfl ?_
      refine own_new Y4019 hx hZ hown (own_w hw 206 rfl) (own_w hw 207 rfl) (own_w hw 208 rfl) rfl (hb hby at_156) (by decide) (by decide) (fun T4023 h4025 b4029 eb4030 Y4024 E4026 X4027 D4028 => ?_)
      have f4031 := F3986.ext E3998
      have f4032 := f4031.wr W4011
      have f4033 := f4032.wr W4016
      have f4034 := f4033.wr W4021
      have ne4035 : sg ≠ b4029 := Nat.ne_of_lt (by rw [eb4030]; exact f4034.lt)
      have f4036 := F3991.ext E3998
      have f4037 := f4036.other W4011 ne4003
      have f4038 := f4037.other W4016 ne4003
      have f4039 := f4038.other W4021 ne4003
      have ne4040 : esa ≠ b4029 := Nat.ne_of_lt (by rw [eb4030]; exact f4039.lt)
      have f4041 := F3992.ext E3998
      have f4042 := f4041.other W4011 ne4004
      have f4043 := f4042.other W4016 ne4004
      have f4044 := f4043.other W4021 ne4004
      have ne4045 : nba ≠ b4029 := Nat.ne_of_lt (by rw [eb4030]; exact f4044.lt)
      have f4046 := F3993.ext E3998
      have f4047 := f4046.other W4011 ne4005
      have f4048 := f4047.other W4016 ne4005
      have f4049 := f4048.other W4021 ne4005
      have ne4050 : ewa ≠ b4029 := Nat.ne_of_lt (by rw [eb4030]; exact f4049.lt)
      have f4051 := F3994.ext E3998
      have f4052 := f4051.other W4011 ne4006
      have f4053 := f4052.other W4016 ne4006
      have f4054 := f4053.other W4021 ne4006
      have ne4055 : vwa ≠ b4029 := Nat.ne_of_lt (by rw [eb4030]; exact f4054.lt)
      have ne4056 : b4000 ≠ b4029 := Nat.ne_of_lt (by rw [eb4030]; exact A4022.lt)
      have z4058 : n0 ≤ h3997.size := Nat.le_trans z3985 E3998.1
      have z4059 : n0 ≤ h4010.size := Nat.le_trans z4058 (Nat.le_of_eq W4011.size.symm)
      have z4060 : n0 ≤ h4015.size := Nat.le_trans z4059 (Nat.le_of_eq W4016.size.symm)
      have z4061 : n0 ≤ h4020.size := Nat.le_trans z4060 (Nat.le_of_eq W4021.size.symm)
      have g4057 : n0 ≤ b4029 := by rw [eb4030]; exact z4061
      have F4062 : Fld Z h4025 b4029 "kombos/query/CellRefinement" "size" "[I" .null := D4028 _ _ _ (.array .int) (Or.inr (own_w hw 214 rfl)) (by decide)
      have F4063 : Fld Z h4025 b4029 "kombos/query/CellRefinement" "mostPerCell" "I" (.int 0) := D4028 _ _ _ .int (Or.inr (own_w hw 216 rfl)) (by decide)
      have F4064 : Fld Z h4025 b4029 "kombos/query/CellRefinement" "edgesTo" "[I" .null := D4028 _ _ _ (.array .int) (Or.inr (own_w hw 218 rfl)) (by decide)
      have F4065 : Fld Z h4025 b4029 "kombos/query/CellRefinement" "freed" "[I" .null := D4028 _ _ _ (.array .int) (Or.inr (own_w hw 220 rfl)) (by decide)
      have F4066 : Fld Z h4025 b4029 "kombos/query/CellRefinement" "touched" "[I" .null := D4028 _ _ _ (.array .int) (Or.inr (own_w hw 222 rfl)) (by decide)
      have F4067 : Fld Z h4025 b4029 "kombos/query/CellRefinement" "graph" "Lkombos/query/SimpleGraph;" .null := D4028 _ _ _ (.object "kombos/query/SimpleGraph") (Or.inl (own_w hw 229 rfl)) (by decide)
      have F4068 : Fld Z h4025 b4029 "kombos/query/CellRefinement" "cellOf" "[I" .null := D4028 _ _ _ (.array .int) (Or.inl (own_w hw 232 rfl)) (by decide)
      have F4069 : Fld Z h4025 b4029 "kombos/query/CellRefinement" "degree" "[I" .null := D4028 _ _ _ (.array .int) (Or.inl (own_w hw 234 rfl)) (by decide)
      have F4070 : Fld Z h4025 b4029 "kombos/query/CellRefinement" "outside" "[I" .null := D4028 _ _ _ (.array .int) (Or.inl (own_w hw 236 rfl)) (by decide)
      have F4071 : Fld Z h4025 b4029 "kombos/query/CellRefinement" "boundary" "[J" .null := D4028 _ _ _ (.array .long) (Or.inl (own_w hw 239 rfl)) (by decide)
      have F4072 : Fld Z h4025 b4029 "kombos/query/CellRefinement" "quiet" "[J" .null := D4028 _ _ _ (.array .long) (Or.inl (own_w hw 241 rfl)) (by decide)
      show own_Ends _ _ _ _ (T4023.setTop (mkF m 159 #[iv x0, iv x1, iv x2, iv f0, iv f1, iv f2, iv y0, iv y1, iv y2, rv b3862, rv sg, rv b4000, .unset, .unset] [(.ref b4029)]))
      refine o_dup Y4024 hx hby at_159 rfl rfl ?_
      refine o_iconst Y4024 hx hby at_160 (x := 4) rfl ?_
      refine o_iloadN Y4024 hx hby at_161 rfl ?_
      have z4073 : n0 ≤ h4025.size := Nat.le_trans z4061 E4026.1
      refine own_callN Y4024 hx hZ (y := (⟨"kombos/query/CellRefinement", "<init>", "(II)V"⟩ : MethodName)) rfl hown (own_w hw 209 rfl) (own_w hw 210 rfl) (own_w hw 208 rfl) (own_w hw 211 rfl) (by decide) (a := b4029) (argsL := [(.int 4), (.int x2)]) (rest := [(.ref b4029)]) (own_rm26 l Z a0 hw [] b4029 x2  h4025 n0 z4073 X4027 F4062 F4063 F4064 F4065 F4066 F4067 F4068 F4069 F4070 F4071 F4072 g4057) (W := 1) (by decide) (by decide) (by decide) (by decide) rfl (by rw [hml]; rfl) (lenOf own_pd20 rfl) rfl (by show 2 * 0 + _ ≤ _; exact Nat.le_of_eq rfl) (hb hby at_162) (fun T4074 h4076 v4077 Y4075 q4078 => ?_)
      obtain ⟨sz, rfl, K4079, F4080, F4081, F4082, F4083, F4084, F4085, F4086, F4087, A4088, hz4089⟩ := q4078
      have f4090 := f4034.ext E4026
      have ne4091 : sg ≠ sz := Nat.ne_of_lt (Nat.lt_of_lt_of_le f4090.lt hz4089)
      have f4092 := f4039.ext E4026
      have ne4093 : esa ≠ sz := Nat.ne_of_lt (Nat.lt_of_lt_of_le f4092.lt hz4089)
      have f4094 := f4044.ext E4026
      have ne4095 : nba ≠ sz := Nat.ne_of_lt (Nat.lt_of_lt_of_le f4094.lt hz4089)
      have f4096 := f4049.ext E4026
      have ne4097 : ewa ≠ sz := Nat.ne_of_lt (Nat.lt_of_lt_of_le f4096.lt hz4089)
      have f4098 := f4054.ext E4026
      have ne4099 : vwa ≠ sz := Nat.ne_of_lt (Nat.lt_of_lt_of_le f4098.lt hz4089)
      have f4100 := A4022.ext E4026
      have ne4101 : b4000 ≠ sz := Nat.ne_of_lt (Nat.lt_of_lt_of_le f4100.lt hz4089)
      have ne4102 : b4029 ≠ sz := Nat.ne_of_lt (Nat.lt_of_lt_of_le X4027.lt hz4089)
      have g4103 : n0 ≤ sz := Nat.le_trans z4073 hz4089
      show own_Ends _ _ _ _ (T4074.setTop (mkF m 165 #[iv x0, iv x1, iv x2, iv f0, iv f1, iv f2, iv y0, iv y1, iv y2, rv b3862, rv sg, rv b4000, .unset, .unset] [(.ref b4029)]))
      refine o_astore Y4075 hx hby at_165 rfl rfl (l' := #[iv x0, iv x1, iv x2, iv f0, iv f1, iv f2, iv y0, iv y1, iv y2, rv b3862, rv sg, rv b4000, rv b4029, .unset]) rfl ?_
      refine o_aload Y4075 hx hby at_167 rfl rfl ?_
      refine o_aload Y4075 hx hby at_169 rfl rfl ?_
      refine o_aload Y4075 hx hby at_171 rfl rfl ?_
      have f4104 := f4090.keep K4079
      have f4105 := F3987.ext E3998
      have f4106 := f4105.other W4011 (Or.inl ne4002)
      have f4107 := f4106.other W4016 (Or.inl ne4002)
      have f4108 := f4107.other W4021 (Or.inl ne4002)
      have f4109 := f4108.ext E4026
      have f4110 := f4109.keep K4079 (ninS ne4035 nin0)
      have f4111 := F3988.ext E3998
      have f4112 := f4111.other W4011 (Or.inl ne4002)
      have f4113 := f4112.other W4016 (Or.inl ne4002)
      have f4114 := f4113.other W4021 (Or.inl ne4002)
      have f4115 := f4114.ext E4026
      have f4116 := f4115.keep K4079 (ninS ne4035 nin0)
      have f4117 := F3989.ext E3998
      have f4118 := f4117.other W4011 (Or.inl ne4002)
      have f4119 := f4118.other W4016 (Or.inl ne4002)
      have f4120 := f4119.other W4021 (Or.inl ne4002)
      have f4121 := f4120.ext E4026
      have f4122 := f4121.keep K4079 (ninS ne4035 nin0)
      have f4123 := F3990.ext E3998
      have f4124 := f4123.other W4011 (Or.inl ne4002)
      have f4125 := f4124.other W4016 (Or.inl ne4002)
      have f4126 := f4125.other W4021 (Or.inl ne4002)
      have f4127 := f4126.ext E4026
      have f4128 := f4127.keep K4079 (ninS ne4035 nin0)
      have f4129 := f4100.keep K4079 (ninS ne4056 nin0)
      have f4130 := f4092.keep K4079 (ninS ne4040 nin0)
      have f4131 := f4094.keep K4079 (ninS ne4045 nin0)
      have f4132 := f4096.keep K4079 (ninS ne4050 nin0)
      have f4133 := f4098.keep K4079 (ninS ne4055 nin0)
      have z4134 : n0 ≤ h4076.size := Nat.le_trans z4073 K4079.1
      refine own_callV Y4075 hx hZ (y := (⟨"kombos/query/CellRefinement", "start", "(Lkombos/query/SimpleGraph;[I)V"⟩ : MethodName)) (z := (⟨"kombos/query/CellRefinement", "start", "(Lkombos/query/SimpleGraph;[I)V"⟩ : MethodName)) hown (own_w hw 223 rfl) (own_w hw 224 rfl) (notFace_of_selects (args := #[]) (mvT hZ (own_w hw 226 rfl))) (own_w hw 226 rfl) (own_w hw 225 rfl) (own_w hw 208 rfl) (own_w hw 227 rfl) (by decide) (a := b4029) F4080 (argsL := [(.ref sg), (.ref b4000)]) (rest := []) (own_rm27 l Z a0 hw [] b4029 sg b4000 sz esa nba ewa vwa [0, 0, 0, 0] bn3 y0 y1 y2 u10 u11 u12 w0 w1 w2 mm2 h4076 n0 z4134 F4080 F4081 F4082 F4083 F4084 F4085 F4086 F4087 f4104 f4110 f4116 f4122 f4128 A4088 f4129 f4130 f4131 f4132 f4133 rfl hy0 hv0 hy1 hv1 hy2 hv2 hq1 hq2 hq6 HC0 HC1 HC2 hbm g4057 g4103 ne4035 ne4091 ne4056 ne4101 ne4040 ne4093 ne4045 ne4095 ne4050 ne4097 ne4055 ne4099 (Ne.symm ne4102)) (W := 0) (by decide) (by decide) (by decide) (by decide) rfl (by rw [hml]; rfl) (lenOf own_pd21 rfl) rfl (by show 2 * 0 + _ ≤ _; exact Nat.le_of_eq rfl) (hb hby at_173) (fun T4135 h4137 v4138 Y4136 q4139 => ?_)
      obtain ⟨oa, rfl, z4140, E4141, F4142, A4143⟩ := q4139
      show own_Ends _ _ _ _ (T4135.setTop (mkF m 176 #[iv x0, iv x1, iv x2, iv f0, iv f1, iv f2, iv y0, iv y1, iv y2, rv b3862, rv sg, rv b4000, rv b4029, .unset] []))
      refine o_iconst Y4136 hx hby at_176 (x := 0) rfl ?_
      refine o_istore Y4136 hx hby at_177 rfl (l' := #[iv x0, iv x1, iv x2, iv f0, iv f1, iv f2, iv y0, iv y1, iv y2, rv b3862, rv sg, rv b4000, rv b4029, iv 0]) rfl ?_
      show own_Ends _ _ _ _ (T4135.setTop (mkF m 179 #[iv x0, iv x1, iv x2, iv f0, iv f1, iv f2, iv y0, iv y1, iv y2, rv b3862, rv sg, rv b4000, rv b4029, iv 0] []))
      have hJ4144 : ∀ (T4145 : State)  (xa : Int32) (Y4146 : own_S p l e room_1 s m #[(.int x0), (.int x1), (.int x2)] below meth c n0 T4145 h4137 26 16528)  (hxa : xa = own_e f0 y0 y1 0), own_Ends p.tables e below (own_P s n0 (own_Q_own_rm0 Z x0 x1 x2 h0 n0) room_1.cells room_1.slots) (T4145.setTop (mkF m 196 #[iv x0, iv x1, iv x2, iv f0, iv f1, iv f2, iv y0, iv y1, iv y2, rv b3862, rv sg, rv b4000, rv b4029, iv xa] [])) := by
       intro T4145  xa Y4146  hxa
       have hJ4147 : ∀ (T4148 : State)  (xb : Int32) (Y4149 : own_S p l e room_1 s m #[(.int x0), (.int x1), (.int x2)] below meth c n0 T4148 h4137 26 16528)  (hxb : xb = own_e f1 y0 y2 xa), own_Ends p.tables e below (own_P s n0 (own_Q_own_rm0 Z x0 x1 x2 h0 n0) room_1.cells room_1.slots) (T4148.setTop (mkF m 214 #[iv x0, iv x1, iv x2, iv f0, iv f1, iv f2, iv y0, iv y1, iv y2, rv b3862, rv sg, rv b4000, rv b4029, iv xb] [])) := by
        intro T4148  xb Y4149  hxb
        have hJ4150 : ∀ (T4151 : State)  (xc : Int32) (Y4152 : own_S p l e room_1 s m #[(.int x0), (.int x1), (.int x2)] below meth c n0 T4151 h4137 26 16528)  (hxc : xc = own_e f2 y1 y2 xb), own_Ends p.tables e below (own_P s n0 (own_Q_own_rm0 Z x0 x1 x2 h0 n0) room_1.cells room_1.slots) (T4151.setTop (mkF m 232 #[iv x0, iv x1, iv x2, iv f0, iv f1, iv f2, iv y0, iv y1, iv y2, rv b3862, rv sg, rv b4000, rv b4029, iv xc] [])) := by
         intro T4151  xc Y4152  hxc
         refine o_aload Y4152 hx hby at_232 rfl rfl ?_
         refine own_callV Y4152 hx hZ (y := (⟨"kombos/query/CellRefinement", "cutWeight", "()I"⟩ : MethodName)) (z := (⟨"kombos/query/CellRefinement", "cutWeight", "()I"⟩ : MethodName)) hown (own_w hw 245 rfl) (own_w hw 246 rfl) (notFace_of_selects (args := #[]) (mvT hZ (own_w hw 248 rfl))) (own_w hw 248 rfl) (own_w hw 247 rfl) (own_w hw 208 rfl) (own_w hw 249 rfl) (by decide) (a := b4029) E4141 (argsL := []) (rest := []) (own_rm28 l Z a0 hw [] b4029 oa (own_v2 [y0, y1, y2] bn3 y0 (w0 - 0) 0 0) (own_v2 [y0, y1, y2] bn3 y1 (w1 - w0) w0 0) (own_v2 [y0, y1, y2] bn3 y2 (w2 - w1) w1 0) h4137 n0  E4141 F4142 A4143) (W := 0) (by decide) (by decide) (by decide) (by decide) rfl (by rw [hml]; rfl) (lenOf own_pd7 rfl) rfl (by show 2 * 0 + _ ≤ _; exact Nat.le_of_eq rfl) (hb hby at_234) (fun T4153 h4155 v4156 Y4154 q4157 => ?_)
         obtain ⟨rfl, rfl⟩ := q4157
         show own_Ends _ _ _ _ (T4153.setTop (mkF m 237 #[iv x0, iv x1, iv x2, iv f0, iv f1, iv f2, iv y0, iv y1, iv y2, rv b3862, rv sg, rv b4000, rv b4029, iv xc] [(.int (((((((0 : Int64) + ((own_v2 [y0, y1, y2] bn3 y0 (w0 - 0) 0 0).toInt64)) + ((own_v2 [y0, y1, y2] bn3 y1 (w1 - w0) w0 0).toInt64)) + ((own_v2 [y0, y1, y2] bn3 y2 (w2 - w1) w1 0).toInt64)) / (2 : Int64)).toInt32)))]))
         refine o_iload Y4154 hx hby at_237 rfl ?_
         refine o_icmpNo Y4154 hx hby at_239 rfl (XT.ii_ne_f (by rw [hxc, hxb, hxa]; exact hpl)) ?_
         refine o_iconst Y4154 hx hby at_242 (x := 1) rfl ?_
         refine o_goto Y4154 hx hby (pc' := 247) at_243 (by decide) (by decide) ?_
         refine own_retN Y4154 hx hlk (t := .boolean) hret (by simp) (hb hby at_247) (by decide) (by decide) ?_
         exact rfl
        refine o_iload Y4149 hx hby at_214 rfl ?_
        by_cases c216_4158 : f2 = (0 : Int32)
        ·
         refine o_ifYes Y4149 hx hby (pc' := 232) at_216 rfl (XT.i0_eq_t c216_4158) (by decide) (by decide) ?_
         exact hJ4150 T4148   (xb) Y4149  (own_e0 c216_4158).symm
        ·
         refine o_ifNo Y4149 hx hby at_216 rfl (XT.i0_eq_f c216_4158) ?_
         refine o_iload Y4149 hx hby at_219 rfl ?_
         refine o_iload Y4149 hx hby at_221 rfl ?_
         by_cases c223_4159 : y1 = y2
         ·
          refine o_icmpYes Y4149 hx hby (pc' := 232) at_223 rfl (XT.ii_eq_t c223_4159) (by decide) (by decide) ?_
          exact hJ4150 T4148   (xb) Y4149  (own_e1 c216_4158 c223_4159).symm
         ·
          refine o_icmpNo Y4149 hx hby at_223 rfl (XT.ii_eq_f c223_4159) ?_
          refine o_iload Y4149 hx hby at_226 rfl ?_
          refine o_iconst Y4149 hx hby at_228 (x := 1) rfl ?_
          refine o_iadd Y4149 hx hby at_229 rfl rfl ?_
          refine o_istore Y4149 hx hby at_230 rfl (l' := #[iv x0, iv x1, iv x2, iv f0, iv f1, iv f2, iv y0, iv y1, iv y2, rv b3862, rv sg, rv b4000, rv b4029, iv (xb + (1 : Int32))]) rfl ?_
          exact hJ4150 T4148   ((xb + (1 : Int32))) Y4149  (own_e2 c216_4158 c223_4159).symm
       refine o_iload Y4146 hx hby at_196 rfl ?_
       by_cases c198_4160 : f1 = (0 : Int32)
       ·
        refine o_ifYes Y4146 hx hby (pc' := 214) at_198 rfl (XT.i0_eq_t c198_4160) (by decide) (by decide) ?_
        exact hJ4147 T4145   (xa) Y4146  (own_e0 c198_4160).symm
       ·
        refine o_ifNo Y4146 hx hby at_198 rfl (XT.i0_eq_f c198_4160) ?_
        refine o_iload Y4146 hx hby at_201 rfl ?_
        refine o_iload Y4146 hx hby at_203 rfl ?_
        by_cases c205_4161 : y0 = y2
        ·
         refine o_icmpYes Y4146 hx hby (pc' := 214) at_205 rfl (XT.ii_eq_t c205_4161) (by decide) (by decide) ?_
         exact hJ4147 T4145   (xa) Y4146  (own_e1 c198_4160 c205_4161).symm
        ·
         refine o_icmpNo Y4146 hx hby at_205 rfl (XT.ii_eq_f c205_4161) ?_
         refine o_iload Y4146 hx hby at_208 rfl ?_
         refine o_iconst Y4146 hx hby at_210 (x := 1) rfl ?_
         refine o_iadd Y4146 hx hby at_211 rfl rfl ?_
         refine o_istore Y4146 hx hby at_212 rfl (l' := #[iv x0, iv x1, iv x2, iv f0, iv f1, iv f2, iv y0, iv y1, iv y2, rv b3862, rv sg, rv b4000, rv b4029, iv (xa + (1 : Int32))]) rfl ?_
         exact hJ4147 T4145   ((xa + (1 : Int32))) Y4146  (own_e2 c198_4160 c205_4161).symm
      refine o_iloadN Y4136 hx hby at_179 rfl ?_
      by_cases c180_4162 : f0 = (0 : Int32)
      ·
       refine o_ifYes Y4136 hx hby (pc' := 196) at_180 rfl (XT.i0_eq_t c180_4162) (by decide) (by decide) ?_
       exact hJ4144 T4135   ((0 : Int32)) Y4136  (own_e0 c180_4162).symm
      ·
       refine o_ifNo Y4136 hx hby at_180 rfl (XT.i0_eq_f c180_4162) ?_
       refine o_iload Y4136 hx hby at_183 rfl ?_
       refine o_iload Y4136 hx hby at_185 rfl ?_
       by_cases c187_4163 : y0 = y1
       ·
        refine o_icmpYes Y4136 hx hby (pc' := 196) at_187 rfl (XT.ii_eq_t c187_4163) (by decide) (by decide) ?_
        exact hJ4144 T4135   ((0 : Int32)) Y4136  (own_e1 c180_4162 c187_4163).symm
       ·
        refine o_icmpNo Y4136 hx hby at_187 rfl (XT.ii_eq_f c187_4163) ?_
        refine o_iload Y4136 hx hby at_190 rfl ?_
        refine o_iconst Y4136 hx hby at_192 (x := 1) rfl ?_
        refine o_iadd Y4136 hx hby at_193 rfl (z := 1) rfl ?_
        refine o_istore Y4136 hx hby at_194 rfl (l' := #[iv x0, iv x1, iv x2, iv f0, iv f1, iv f2, iv y0, iv y1, iv y2, rv b3862, rv sg, rv b4000, rv b4029, iv 1]) rfl ?_
        exact hJ4144 T4135   ((1 : Int32)) Y4136  (by rw [own_e2 c180_4162 c187_4163]; rfl)
     have f4164 := f3950.keep K3958
     have f4165 := F3886.keep K3926 (ninS ne3919 nin0)
     have f4166 := f4165.keep K3942 (ninS ne3919 nin0)
     have f4167 := f4166.keep K3958 (ninS ne3919 nin0)
     have f4168 := F3887.keep K3926 (ninS ne3919 nin0)
     have f4169 := f4168.keep K3942 (ninS ne3919 nin0)
     have f4170 := f4169.keep K3958 (ninS ne3919 nin0)
     have f4171 := F3888.keep K3926 (ninS ne3919 nin0)
     have f4172 := f4171.keep K3942 (ninS ne3919 nin0)
     have f4173 := f4172.keep K3958 (ninS ne3919 nin0)
     have f4174 := F3889.keep K3926 (ninS ne3919 nin0)
     have f4175 := f4174.keep K3942 (ninS ne3919 nin0)
     have f4176 := f4175.keep K3958 (ninS ne3919 nin0)
     have f4177 := F3890.keep K3926 (ninS ne3919 nin0)
     have f4178 := f4177.keep K3942 (ninS ne3919 nin0)
     have f4179 := f4178.keep K3958 (ninS ne3919 nin0)
     have f4180 := F3891.keep K3926 (ninS ne3919 nin0)
     have f4181 := f4180.keep K3942 (ninS ne3919 nin0)
     have f4182 := f4181.keep K3958 (ninS ne3919 nin0)
     have f4183 := f3951.keep K3958 (ninS ne3919 nin0)
     have f4184 := F3893.keep K3926 (ninS ne3919 nin0)
     have f4185 := f4184.keep K3942 (ninS ne3919 nin0)
     have f4186 := f4185.keep K3958 (ninS ne3919 nin0)
     have f4187 := f3952.keep K3958 (ninS ne3919 nin0)
     have f4188 := F3895.keep K3926 (ninS ne3919 nin0)
     have f4189 := f4188.keep K3942 (ninS ne3919 nin0)
     have f4190 := f4189.keep K3958 (ninS ne3919 nin0)
     have f4191 := F3896.keep K3926 (ninS ne3919 nin0)
     have f4192 := f4191.keep K3942 (ninS ne3919 nin0)
     have f4193 := f4192.keep K3958 (ninS ne3919 nin0)
     have f4194 := F3897.keep K3926 (ninS ne3919 nin0)
     have f4195 := f4194.keep K3942 (ninS ne3919 nin0)
     have f4196 := f4195.keep K3958 (ninS ne3919 nin0)
     have z4197 : n0 ≤ h3881.size := Nat.le_trans z3878 K3884.1
     have z4198 : n0 ≤ h3923.size := Nat.le_trans z4197 K3926.1
     have z4199 : n0 ≤ h3939.size := Nat.le_trans z4198 K3942.1
     have z4200 : n0 ≤ h3955.size := Nat.le_trans z4199 K3958.1
     have f4201 := F3905.keep K3926
     have f4202 := f4201.keep K3942
     have f4203 := f4202.keep K3958
     have f4204 := F3906.keep K3926 (ninS ne3913 nin0)
     have f4205 := f4204.keep K3942 (ninS ne3913 nin0)
     have f4206 := f4205.keep K3958 (ninS ne3913 nin0)
     have f4207 := F3907.keep K3926
     have f4208 := f4207.keep K3942
     have f4209 := f4208.keep K3958
     have f4210 := F3908.keep K3926 (ninS ne3914 nin0)
     have f4211 := f4210.keep K3942 (ninS ne3914 nin0)
     have f4212 := f4211.keep K3958 (ninS ne3914 nin0)
     refine o_iloadN Y3954 hx hby at_87 rfl ?_
     by_cases c88_4213 : f0 = (0 : Int32)
     ·
      refine o_ifYes Y3954 hx hby (pc' := 98) at_88 rfl (XT.i0_eq_t c88_4213) (by decide) (by decide) ?_
      refine o_iload Y3954 hx hby at_98 rfl ?_
      by_cases c100_4214 : f1 = (0 : Int32)
      ·
       refine o_ifYes Y3954 hx hby (pc' := 112) at_100 rfl (XT.i0_eq_t c100_4214) (by decide) (by decide) ?_
       refine o_iload Y3954 hx hby at_112 rfl ?_
       by_cases c114_4215 : f2 = (0 : Int32)
       ·
        refine o_ifYes Y3954 hx hby (pc' := 126) at_114 rfl (XT.i0_eq_t c114_4215) (by decide) (by decide) ?_
        refine o_aload Y3954 hx hby at_126 rfl rfl ?_
        refine own_callV Y3954 hx hZ (y := (⟨"kombos/graph/Graph$Builder", "build", "()Lkombos/graph/Graph;"⟩ : MethodName)) (z := (⟨"kombos/graph/Graph$Builder", "build", "()Lkombos/graph/Graph;"⟩ : MethodName)) hown (own_w hw 87 rfl) (own_w hw 88 rfl) (notFace_of_selects (args := #[]) (mvT hZ (own_w hw 90 rfl))) (own_w hw 90 rfl) (own_w hw 89 rfl) (own_w hw 2 rfl) (own_w hw 91 rfl) (by decide) (a := b3862) f4164 (argsL := []) (rest := []) (own_rm12_0 l Z a0 hw [] b3862 sa ta ix el h3955 n0 z4200 f4164 f4167 f4170 f4173 f4176 f4179 f4182 f4183 f4186 f4187 f4190 f4193 f4196 F3959 F3961 F3965 (Ne.symm ne3915) (Ne.symm ne3917) (Ne.symm ne3919) g3864) (W := 0) (by decide) (by decide) (by decide) (by decide) rfl (by rw [hml]; rfl) (lenOf own_pd22 rfl) rfl (by show 2 * 0 + _ ≤ _; exact Nat.le_of_eq rfl) (hb hby at_128) (fun T4216 h4218 v4219 Y4217 q4220 => ?_)
        obtain ⟨gr, ea, ga, rfl, z4221, F4222, F4223, F4224, F4225, F4226, F4227, F4228, F4229, F4230, F4231⟩ := q4220
        show own_Ends _ _ _ _ (T4216.setTop (mkF m 131 #[iv x0, iv x1, iv x2, iv f0, iv f1, iv f2, iv y0, iv y1, iv y2, rv b3862, .unset, .unset, .unset, .unset] [(.ref gr)]))
        exact hJ3966 T4216 h4218  (gr) (ea) (ga) ([]) ([0, (-1), (-1)]) ([0, 1, (-1)]) ([0, 1, 2]) ([0, (-1), (-1)]) ([0, 1, (-1)]) ([0, 1, 2]) ([0, 0, 0]) ([0, 0, 0]) ([0, 0, 0]) ([]) ([]) ([]) (0) (0) (0) (0) (0) (0) (0) (0) (0) (0) (0) (0) (0) (0) (0) (0) (0) (0) (0) (0) (0) (0) (0) (own_mono Y4217 (by decide) (by decide)) z4221 F4222 F4223 F4224 F4225 F4226 F4227 F4228 F4229 F4231 (by decide +kernel) (by decide +kernel) (by decide +kernel) (by decide +kernel) (by decide +kernel) (by decide +kernel) (by decide +kernel) (by decide +kernel) (by decide +kernel) (by decide +kernel) (by decide +kernel) (by decide +kernel) (by decide +kernel) (by decide +kernel) (by decide +kernel) (by decide +kernel) (by decide +kernel) (by decide +kernel) (by decide +kernel) (by decide +kernel) (by decide +kernel) (by decide +kernel) (by decide +kernel) (by decide +kernel) (by decide +kernel) (by decide +kernel) (by decide +kernel) (by decide +kernel) (by decide +kernel) (by decide +kernel) (by decide +kernel) (by decide +kernel) (by decide +kernel) (by decide +kernel) (by decide +kernel) (by decide +kernel) (by decide +kernel) (by decide +kernel) (by decide +kernel) (own_pl0 f0 f1 f2 y0 y1 y2 c88_4213 c100_4214 c114_4215)
       ·
        refine o_ifNo Y3954 hx hby at_114 rfl (XT.i0_eq_f c114_4215) ?_
        refine o_aload Y3954 hx hby at_117 rfl rfl ?_
        refine own_st (fun t_ => XS.lconst (own_here Y3954) hx rfl (hb hby at_119) ) ?_
        show own_Ends _ _ _ _ (T3953.setTop (mkF m 120 #[iv x0, iv x1, iv x2, iv f0, iv f1, iv f2, iv y0, iv y1, iv y2, rv b3862, .unset, .unset, .unset, .unset] [(.long 1), (.ref b3862)]))
        refine own_ldcJ Y3954 hx hZ hown (own_w hw 86 rfl) rfl (hb hby at_120) ?_
        show own_Ends _ _ _ _ (T3953.setTop (mkF m 123 #[iv x0, iv x1, iv x2, iv f0, iv f1, iv f2, iv y0, iv y1, iv y2, rv b3862, .unset, .unset, .unset, .unset] [(.long 2), (.long 1), (.ref b3862)]))
        refine own_callV Y3954 hx hZ (y := (⟨"kombos/graph/Graph$Builder", "addEdge", "(JJ)V"⟩ : MethodName)) (z := (⟨"kombos/graph/Graph$Builder", "addEdge", "(JJ)V"⟩ : MethodName)) hown (own_w hw 251 rfl) (own_w hw 252 rfl) (notFace_of_selects (args := #[]) (mvT hZ (own_w hw 254 rfl))) (own_w hw 254 rfl) (own_w hw 253 rfl) (own_w hw 2 rfl) (own_w hw 255 rfl) (by decide) (a := b3862) f4164 (argsL := [(.long 1), (.long 2)]) (rest := []) (own_rm29_0 l Z a0 hw [] b3862 (1 : Int64) (2 : Int64) sa ta ix el (1 : Int32) (2 : Int32) h3955 n0 z4200 f4164 f4167 f4170 f4173 f4176 f4179 f4182 f4183 f4186 f4187 f4190 f4193 f4196 F3959 F3960 F3961 F3962 F3963 F3964 F3965 (Ne.symm ne3915) (Ne.symm ne3917) (Ne.symm ne3919) ne3913 ne3914 g3864 (by decide) (by decide) (by decide) (by decide) rfl rfl f4203 f4206 f4209 f4212 g3916 g3918 ne3912) (W := 0) (by decide) (by decide) (by decide) (by decide) rfl (by rw [hml]; rfl) (lenOf own_pd23 rfl) rfl (by show 2 * 0 + _ ≤ _; exact Nat.le_of_eq rfl) (hb hby at_123) (fun T4232 h4234 v4235 Y4233 q4236 => ?_)
        obtain ⟨bs, bt, S, T, lS, lT, rfl, K4237, F4238, F4239, F4240, F4241, F4242, F4243, F4244, F4245, F4246, F4247, F4248, F4249, F4250, F4251, F4252, F4253, F4254, hz4255, hz4256, ne4257⟩ := q4236
        have ne4258 : b3862 ≠ bs := Nat.ne_of_lt (Nat.lt_of_lt_of_le f4164.lt hz4255)
        have ne4259 : ix ≠ bs := Nat.ne_of_lt (Nat.lt_of_lt_of_le F3959.lt hz4255)
        have ne4260 : sa ≠ bs := Nat.ne_of_lt (Nat.lt_of_lt_of_le f4203.lt hz4255)
        have ne4261 : ta ≠ bs := Nat.ne_of_lt (Nat.lt_of_lt_of_le f4209.lt hz4255)
        have g4262 : n0 ≤ bs := Nat.le_trans z4200 hz4255
        have ne4263 : b3862 ≠ bt := Nat.ne_of_lt (Nat.lt_of_lt_of_le f4164.lt hz4256)
        have ne4264 : ix ≠ bt := Nat.ne_of_lt (Nat.lt_of_lt_of_le F3959.lt hz4256)
        have ne4265 : sa ≠ bt := Nat.ne_of_lt (Nat.lt_of_lt_of_le f4203.lt hz4256)
        have ne4266 : ta ≠ bt := Nat.ne_of_lt (Nat.lt_of_lt_of_le f4209.lt hz4256)
        have g4267 : n0 ≤ bt := Nat.le_trans z4200 hz4256
        show own_Ends _ _ _ _ (T4232.setTop (mkF m 126 #[iv x0, iv x1, iv x2, iv f0, iv f1, iv f2, iv y0, iv y1, iv y2, rv b3862, .unset, .unset, .unset, .unset] []))
        refine o_aload Y4233 hx hby at_126 rfl rfl ?_
        have f4268 := F3959.keep K4237
        have f4269 := F3961.keep K4237 (ninS (Ne.symm ne3919) (ninS (Ne.symm ne3913) (ninS (Ne.symm ne3914) nin0)))
        have f4270 := F3965.keep K4237 (ninS (Ne.symm ne3919) (ninS (Ne.symm ne3913) (ninS (Ne.symm ne3914) nin0)))
        have z4271 : n0 ≤ h4234.size := Nat.le_trans z4200 K4237.1
        refine own_callV Y4233 hx hZ (y := (⟨"kombos/graph/Graph$Builder", "build", "()Lkombos/graph/Graph;"⟩ : MethodName)) (z := (⟨"kombos/graph/Graph$Builder", "build", "()Lkombos/graph/Graph;"⟩ : MethodName)) hown (own_w hw 87 rfl) (own_w hw 88 rfl) (notFace_of_selects (args := #[]) (mvT hZ (own_w hw 90 rfl))) (own_w hw 90 rfl) (own_w hw 89 rfl) (own_w hw 2 rfl) (own_w hw 91 rfl) (by decide) (a := b3862) F4238 (argsL := []) (rest := []) (own_rm12_1 l Z a0 hw [] b3862 sa ta ix el bs bt (S.set 0 (1 : Int32)) (T.set 0 (2 : Int32)) [1] [2] [2, 1] 1 0 0 1 1 0 1 2 2 1 2 h4234 n0 z4271 F4238 F4239 F4240 F4241 F4242 F4243 F4244 F4245 F4246 F4247 F4248 F4249 F4250 f4268 f4269 f4270 (Ne.symm ne3915) (Ne.symm ne3917) (Ne.symm ne3919) g3864 F4251 F4252 F4253 F4254 (by simp [lS]) (by simp [lT]) (own_gs1 lS 1) (own_gs1 lT 2) (by decide +kernel) (by decide +kernel) (by decide +kernel) (by decide +kernel) (by decide +kernel) (by decide +kernel) (by decide +kernel) (Ne.symm ne4258) (Ne.symm ne4263)) (W := 0) (by decide) (by decide) (by decide) (by decide) rfl (by rw [hml]; rfl) (lenOf own_pd22 rfl) rfl (by show 2 * 0 + _ ≤ _; exact Nat.le_of_eq rfl) (hb hby at_128) (fun T4272 h4274 v4275 Y4273 q4276 => ?_)
        obtain ⟨gr, ea, ga, rfl, z4277, F4278, F4279, F4280, F4281, F4282, F4283, F4284, F4285, F4286, F4287⟩ := q4276
        show own_Ends _ _ _ _ (T4272.setTop (mkF m 131 #[iv x0, iv x1, iv x2, iv f0, iv f1, iv f2, iv y0, iv y1, iv y2, rv b3862, .unset, .unset, .unset, .unset] [(.ref gr)]))
        exact hJ3966 T4272 h4274  (gr) (ea) (ga) ([2, 1]) ([0, (-1), (-1)]) ([0, 1, 1]) ([0, 2, 2]) ([0, (-1), (-1)]) ([0, 1, 1]) ([0, 2, 2]) ([0, 0, 1]) ([0, 0, 2]) ([0, 1, 2]) ([0, 0]) ([0, 1]) ([2, 1]) (0) (1) (2) (0) (1) (1) (0) (1) (1) (0) (1) (2) (0) (1) (2) (2) (0) (1) (2) (2) (0) (1) (2) Y4273 z4277 F4278 F4279 F4280 F4281 F4282 F4283 F4284 F4285 F4287 (by decide +kernel) (by decide +kernel) (by decide +kernel) (by decide +kernel) (by decide +kernel) (by decide +kernel) (by decide +kernel) (by decide +kernel) (by decide +kernel) (by decide +kernel) (by decide +kernel) (by decide +kernel) (by decide +kernel) (by decide +kernel) (by decide +kernel) (by decide +kernel) (by decide +kernel) (by decide +kernel) (by decide +kernel) (by decide +kernel) (by decide +kernel) (by decide +kernel) (by decide +kernel) (by decide +kernel) (by decide +kernel) (by decide +kernel) (by decide +kernel) (by decide +kernel) (by decide +kernel) (by decide +kernel) (by decide +kernel) (by decide +kernel) (by decide +kernel) (by decide +kernel) (by decide +kernel) (by decide +kernel) (by decide +kernel) (by decide +kernel) (by decide +kernel) (own_pl4 f0 f1 f2 y0 y1 y2 c88_4213 c100_4214 c114_4215)
      ·
       refine o_ifNo Y3954 hx hby at_100 rfl (XT.i0_eq_f c100_4214) ?_
       refine o_aload Y3954 hx hby at_103 rfl rfl ?_
       refine own_st (fun t_ => XS.lconst (own_here Y3954) hx rfl (hb hby at_105) ) ?_
       show own_Ends _ _ _ _ (T3953.setTop (mkF m 106 #[iv x0, iv x1, iv x2, iv f0, iv f1, iv f2, iv y0, iv y1, iv y2, rv b3862, .unset, .unset, .unset, .unset] [(.long 0), (.ref b3862)]))
       refine own_ldcJ Y3954 hx hZ hown (own_w hw 86 rfl) rfl (hb hby at_106) ?_
       show own_Ends _ _ _ _ (T3953.setTop (mkF m 109 #[iv x0, iv x1, iv x2, iv f0, iv f1, iv f2, iv y0, iv y1, iv y2, rv b3862, .unset, .unset, .unset, .unset] [(.long 2), (.long 0), (.ref b3862)]))
       refine own_callV Y3954 hx hZ (y := (⟨"kombos/graph/Graph$Builder", "addEdge", "(JJ)V"⟩ : MethodName)) (z := (⟨"kombos/graph/Graph$Builder", "addEdge", "(JJ)V"⟩ : MethodName)) hown (own_w hw 251 rfl) (own_w hw 252 rfl) (notFace_of_selects (args := #[]) (mvT hZ (own_w hw 254 rfl))) (own_w hw 254 rfl) (own_w hw 253 rfl) (own_w hw 2 rfl) (own_w hw 255 rfl) (by decide) (a := b3862) f4164 (argsL := [(.long 0), (.long 2)]) (rest := []) (own_rm29_0 l Z a0 hw [] b3862 (0 : Int64) (2 : Int64) sa ta ix el (0 : Int32) (2 : Int32) h3955 n0 z4200 f4164 f4167 f4170 f4173 f4176 f4179 f4182 f4183 f4186 f4187 f4190 f4193 f4196 F3959 F3960 F3961 F3962 F3963 F3964 F3965 (Ne.symm ne3915) (Ne.symm ne3917) (Ne.symm ne3919) ne3913 ne3914 g3864 (by decide) (by decide) (by decide) (by decide) rfl rfl f4203 f4206 f4209 f4212 g3916 g3918 ne3912) (W := 0) (by decide) (by decide) (by decide) (by decide) rfl (by rw [hml]; rfl) (lenOf own_pd23 rfl) rfl (by show 2 * 0 + _ ≤ _; exact Nat.le_of_eq rfl) (hb hby at_109) (fun T4288 h4290 v4291 Y4289 q4292 => ?_)
       obtain ⟨bs, bt, S, T, lS, lT, rfl, K4293, F4294, F4295, F4296, F4297, F4298, F4299, F4300, F4301, F4302, F4303, F4304, F4305, F4306, F4307, F4308, F4309, F4310, hz4311, hz4312, ne4313⟩ := q4292
       have ne4314 : b3862 ≠ bs := Nat.ne_of_lt (Nat.lt_of_lt_of_le f4164.lt hz4311)
       have ne4315 : ix ≠ bs := Nat.ne_of_lt (Nat.lt_of_lt_of_le F3959.lt hz4311)
       have ne4316 : sa ≠ bs := Nat.ne_of_lt (Nat.lt_of_lt_of_le f4203.lt hz4311)
       have ne4317 : ta ≠ bs := Nat.ne_of_lt (Nat.lt_of_lt_of_le f4209.lt hz4311)
       have g4318 : n0 ≤ bs := Nat.le_trans z4200 hz4311
       have ne4319 : b3862 ≠ bt := Nat.ne_of_lt (Nat.lt_of_lt_of_le f4164.lt hz4312)
       have ne4320 : ix ≠ bt := Nat.ne_of_lt (Nat.lt_of_lt_of_le F3959.lt hz4312)
       have ne4321 : sa ≠ bt := Nat.ne_of_lt (Nat.lt_of_lt_of_le f4203.lt hz4312)
       have ne4322 : ta ≠ bt := Nat.ne_of_lt (Nat.lt_of_lt_of_le f4209.lt hz4312)
       have g4323 : n0 ≤ bt := Nat.le_trans z4200 hz4312
       show own_Ends _ _ _ _ (T4288.setTop (mkF m 112 #[iv x0, iv x1, iv x2, iv f0, iv f1, iv f2, iv y0, iv y1, iv y2, rv b3862, .unset, .unset, .unset, .unset] []))
       refine o_iload Y4289 hx hby at_112 rfl ?_
       by_cases c114_4324 : f2 = (0 : Int32)
       ·
        refine o_ifYes Y4289 hx hby (pc' := 126) at_114 rfl (XT.i0_eq_t c114_4324) (by decide) (by decide) ?_
        refine o_aload Y4289 hx hby at_126 rfl rfl ?_
        have f4325 := F3959.keep K4293
        have f4326 := F3961.keep K4293 (ninS (Ne.symm ne3919) (ninS (Ne.symm ne3913) (ninS (Ne.symm ne3914) nin0)))
        have f4327 := F3965.keep K4293 (ninS (Ne.symm ne3919) (ninS (Ne.symm ne3913) (ninS (Ne.symm ne3914) nin0)))
        have z4328 : n0 ≤ h4290.size := Nat.le_trans z4200 K4293.1
        refine own_callV Y4289 hx hZ (y := (⟨"kombos/graph/Graph$Builder", "build", "()Lkombos/graph/Graph;"⟩ : MethodName)) (z := (⟨"kombos/graph/Graph$Builder", "build", "()Lkombos/graph/Graph;"⟩ : MethodName)) hown (own_w hw 87 rfl) (own_w hw 88 rfl) (notFace_of_selects (args := #[]) (mvT hZ (own_w hw 90 rfl))) (own_w hw 90 rfl) (own_w hw 89 rfl) (own_w hw 2 rfl) (own_w hw 91 rfl) (by decide) (a := b3862) F4294 (argsL := []) (rest := []) (own_rm12_1 l Z a0 hw [] b3862 sa ta ix el bs bt (S.set 0 (0 : Int32)) (T.set 0 (2 : Int32)) [0] [2] [2, 0] 1 0 1 0 1 1 1 2 2 1 2 h4290 n0 z4328 F4294 F4295 F4296 F4297 F4298 F4299 F4300 F4301 F4302 F4303 F4304 F4305 F4306 f4325 f4326 f4327 (Ne.symm ne3915) (Ne.symm ne3917) (Ne.symm ne3919) g3864 F4307 F4308 F4309 F4310 (by simp [lS]) (by simp [lT]) (own_gs1 lS 0) (own_gs1 lT 2) (by decide +kernel) (by decide +kernel) (by decide +kernel) (by decide +kernel) (by decide +kernel) (by decide +kernel) (by decide +kernel) (Ne.symm ne4314) (Ne.symm ne4319)) (W := 0) (by decide) (by decide) (by decide) (by decide) rfl (by rw [hml]; rfl) (lenOf own_pd22 rfl) rfl (by show 2 * 0 + _ ≤ _; exact Nat.le_of_eq rfl) (hb hby at_128) (fun T4329 h4331 v4332 Y4330 q4333 => ?_)
        obtain ⟨gr, ea, ga, rfl, z4334, F4335, F4336, F4337, F4338, F4339, F4340, F4341, F4342, F4343, F4344⟩ := q4333
        show own_Ends _ _ _ _ (T4329.setTop (mkF m 131 #[iv x0, iv x1, iv x2, iv f0, iv f1, iv f2, iv y0, iv y1, iv y2, rv b3862, .unset, .unset, .unset, .unset] [(.ref gr)]))
        exact hJ3966 T4329 h4331  (gr) (ea) (ga) ([2, 0]) ([0, (-1), 0]) ([0, 1, 0]) ([2, 1, 2]) ([0, (-1), 0]) ([0, 1, 0]) ([2, 1, 2]) ([0, 1, 2]) ([0, 1, 2]) ([1, 1, 2]) ([0, 0]) ([0, 0]) ([2, 0]) (1) (1) (2) (1) (0) (1) (1) (0) (1) (1) (1) (2) (1) (1) (2) (2) (1) (1) (2) (2) (1) (1) (2) Y4330 z4334 F4335 F4336 F4337 F4338 F4339 F4340 F4341 F4342 F4344 (by decide +kernel) (by decide +kernel) (by decide +kernel) (by decide +kernel) (by decide +kernel) (by decide +kernel) (by decide +kernel) (by decide +kernel) (by decide +kernel) (by decide +kernel) (by decide +kernel) (by decide +kernel) (by decide +kernel) (by decide +kernel) (by decide +kernel) (by decide +kernel) (by decide +kernel) (by decide +kernel) (by decide +kernel) (by decide +kernel) (by decide +kernel) (by decide +kernel) (by decide +kernel) (by decide +kernel) (by decide +kernel) (by decide +kernel) (by decide +kernel) (by decide +kernel) (by decide +kernel) (by decide +kernel) (by decide +kernel) (by decide +kernel) (by decide +kernel) (by decide +kernel) (by decide +kernel) (by decide +kernel) (by decide +kernel) (by decide +kernel) (by decide +kernel) (own_pl2 f0 f1 f2 y0 y1 y2 c88_4213 c100_4214 c114_4324)
       ·
        refine o_ifNo Y4289 hx hby at_114 rfl (XT.i0_eq_f c114_4324) ?_
        refine o_aload Y4289 hx hby at_117 rfl rfl ?_
        refine own_st (fun t_ => XS.lconst (own_here Y4289) hx rfl (hb hby at_119) ) ?_
        show own_Ends _ _ _ _ (T4288.setTop (mkF m 120 #[iv x0, iv x1, iv x2, iv f0, iv f1, iv f2, iv y0, iv y1, iv y2, rv b3862, .unset, .unset, .unset, .unset] [(.long 1), (.ref b3862)]))
        refine own_ldcJ Y4289 hx hZ hown (own_w hw 86 rfl) rfl (hb hby at_120) ?_
        show own_Ends _ _ _ _ (T4288.setTop (mkF m 123 #[iv x0, iv x1, iv x2, iv f0, iv f1, iv f2, iv y0, iv y1, iv y2, rv b3862, .unset, .unset, .unset, .unset] [(.long 2), (.long 1), (.ref b3862)]))
        have f4345 := F3959.keep K4293
        have f4346 := F3960.keep K4293 (ninS (Ne.symm ne3919) (ninS (Ne.symm ne3913) (ninS (Ne.symm ne3914) nin0)))
        have f4347 := F3961.keep K4293 (ninS (Ne.symm ne3919) (ninS (Ne.symm ne3913) (ninS (Ne.symm ne3914) nin0)))
        have f4348 := F3962.keep K4293 (ninS (Ne.symm ne3919) (ninS (Ne.symm ne3913) (ninS (Ne.symm ne3914) nin0)))
        have f4349 := F3963.keep K4293 (ninS (Ne.symm ne3919) (ninS (Ne.symm ne3913) (ninS (Ne.symm ne3914) nin0)))
        have f4350 := F3964.keep K4293 (ninS (Ne.symm ne3919) (ninS (Ne.symm ne3913) (ninS (Ne.symm ne3914) nin0)))
        have f4351 := F3965.keep K4293 (ninS (Ne.symm ne3919) (ninS (Ne.symm ne3913) (ninS (Ne.symm ne3914) nin0)))
        refine own_callV Y4289 hx hZ (y := (⟨"kombos/graph/Graph$Builder", "addEdge", "(JJ)V"⟩ : MethodName)) (z := (⟨"kombos/graph/Graph$Builder", "addEdge", "(JJ)V"⟩ : MethodName)) hown (own_w hw 251 rfl) (own_w hw 252 rfl) (notFace_of_selects (args := #[]) (mvT hZ (own_w hw 254 rfl))) (own_w hw 254 rfl) (own_w hw 253 rfl) (own_w hw 2 rfl) (own_w hw 255 rfl) (by decide) (a := b3862) F4294 (argsL := [(.long 1), (.long 2)]) (rest := []) (own_rm29_1 l Z a0 hw [] b3862 (1 : Int64) (2 : Int64) sa ta ix el (1 : Int32) (2 : Int32) bs bt (S.set 0 (0 : Int32)) (T.set 0 (2 : Int32)) h4290 n0  F4294 F4295 F4296 F4297 F4298 F4299 F4300 F4301 F4302 F4303 F4304 F4305 F4306 f4345 f4346 f4347 f4348 f4349 f4350 f4351 (Ne.symm ne3915) (Ne.symm ne3917) (Ne.symm ne3919) ne3913 ne3914 g3864 (by decide) (by decide) (by decide) (by decide) rfl rfl F4307 F4308 F4309 F4310 (by simp [lS]) (by simp [lT]) g4318 g4323 ne4313 (Ne.symm ne4314) (Ne.symm ne4316) (Ne.symm ne4317) (Ne.symm ne4315) (Ne.symm ne4319) (Ne.symm ne4321) (Ne.symm ne4322) (Ne.symm ne4320) ne3912) (W := 0) (by decide) (by decide) (by decide) (by decide) rfl (by rw [hml]; rfl) (lenOf own_pd23 rfl) rfl (by show 2 * 0 + _ ≤ _; exact Nat.le_of_eq rfl) (hb hby at_123) (fun T4352 h4354 v4355 Y4353 q4356 => ?_)
        obtain ⟨rfl, K4357, F4358, F4359, F4360, F4361, F4362, F4363, F4364, F4365, F4366, F4367, F4368, F4369, F4370, F4371, F4372⟩ := q4356
        show own_Ends _ _ _ _ (T4352.setTop (mkF m 126 #[iv x0, iv x1, iv x2, iv f0, iv f1, iv f2, iv y0, iv y1, iv y2, rv b3862, .unset, .unset, .unset, .unset] []))
        refine o_aload Y4353 hx hby at_126 rfl rfl ?_
        have f4373 := f4345.keep K4357
        have f4374 := f4347.keep K4357 (ninS (Ne.symm ne3919) (ninS ne4315 (ninS ne4320 nin0)))
        have f4375 := f4351.keep K4357 (ninS (Ne.symm ne3919) (ninS ne4315 (ninS ne4320 nin0)))
        have f4376 := F4307.keep K4357 (ninS (Ne.symm ne3915) (ninS ne4316 (ninS ne4321 nin0)))
        have f4377 := F4308.keep K4357 (ninS (Ne.symm ne3917) (ninS ne4317 (ninS ne4322 nin0)))
        have z4378 : n0 ≤ h4290.size := Nat.le_trans z4200 K4293.1
        have z4379 : n0 ≤ h4354.size := Nat.le_trans z4378 K4357.1
        refine own_callV Y4353 hx hZ (y := (⟨"kombos/graph/Graph$Builder", "build", "()Lkombos/graph/Graph;"⟩ : MethodName)) (z := (⟨"kombos/graph/Graph$Builder", "build", "()Lkombos/graph/Graph;"⟩ : MethodName)) hown (own_w hw 87 rfl) (own_w hw 88 rfl) (notFace_of_selects (args := #[]) (mvT hZ (own_w hw 90 rfl))) (own_w hw 90 rfl) (own_w hw 89 rfl) (own_w hw 2 rfl) (own_w hw 91 rfl) (by decide) (a := b3862) F4358 (argsL := []) (rest := []) (own_rm12_1 l Z a0 hw [] b3862 sa ta ix el bs bt ((S.set 0 (0 : Int32)).set 1 (1 : Int32)) ((T.set 0 (2 : Int32)).set 1 (2 : Int32)) [0, 1] [2, 2] [2, 2, 0, 1] 2 0 1 1 2 1 2 4 4 2 4 h4354 n0 z4379 F4358 F4359 F4360 F4361 F4362 F4363 F4364 F4365 F4366 F4367 F4368 F4369 F4370 f4373 f4374 f4375 (Ne.symm ne3915) (Ne.symm ne3917) (Ne.symm ne3919) g3864 f4376 f4377 F4371 F4372 (by simp [lS]) (by simp [lT]) (own_gs2 lS 0 1) (own_gs2 lT 2 2) (by decide +kernel) (by decide +kernel) (by decide +kernel) (by decide +kernel) (by decide +kernel) (by decide +kernel) (by decide +kernel) (Ne.symm ne4314) (Ne.symm ne4319)) (W := 0) (by decide) (by decide) (by decide) (by decide) rfl (by rw [hml]; rfl) (lenOf own_pd22 rfl) rfl (by show 2 * 0 + _ ≤ _; exact Nat.le_of_eq rfl) (hb hby at_128) (fun T4380 h4382 v4383 Y4381 q4384 => ?_)
        obtain ⟨gr, ea, ga, rfl, z4385, F4386, F4387, F4388, F4389, F4390, F4391, F4392, F4393, F4394, F4395⟩ := q4384
        show own_Ends _ _ _ _ (T4380.setTop (mkF m 131 #[iv x0, iv x1, iv x2, iv f0, iv f1, iv f2, iv y0, iv y1, iv y2, rv b3862, .unset, .unset, .unset, .unset] [(.ref gr)]))
        exact hJ3966 T4380 h4382  (gr) (ea) (ga) ([2, 2, 0, 1]) ([0, (-1), 0]) ([0, 1, 1]) ([2, 2, 2]) ([0, (-1), 0]) ([0, 1, 1]) ([2, 2, 2]) ([0, 1, 3]) ([0, 1, 4]) ([1, 2, 4]) ([0, 0, 0, 0]) ([0, 0, 0, 1]) ([2, 2, 0, 1]) (1) (2) (4) (1) (1) (2) (1) (1) (2) (1) (2) (4) (1) (2) (4) (4) (1) (2) (4) (4) (1) (2) (4) Y4381 z4385 F4386 F4387 F4388 F4389 F4390 F4391 F4392 F4393 F4395 (by decide +kernel) (by decide +kernel) (by decide +kernel) (by decide +kernel) (by decide +kernel) (by decide +kernel) (by decide +kernel) (by decide +kernel) (by decide +kernel) (by decide +kernel) (by decide +kernel) (by decide +kernel) (by decide +kernel) (by decide +kernel) (by decide +kernel) (by decide +kernel) (by decide +kernel) (by decide +kernel) (by decide +kernel) (by decide +kernel) (by decide +kernel) (by decide +kernel) (by decide +kernel) (by decide +kernel) (by decide +kernel) (by decide +kernel) (by decide +kernel) (by decide +kernel) (by decide +kernel) (by decide +kernel) (by decide +kernel) (by decide +kernel) (by decide +kernel) (by decide +kernel) (by decide +kernel) (by decide +kernel) (by decide +kernel) (by decide +kernel) (by decide +kernel) (own_pl6 f0 f1 f2 y0 y1 y2 c88_4213 c100_4214 c114_4324)
     ·
      refine o_ifNo Y3954 hx hby at_88 rfl (XT.i0_eq_f c88_4213) ?_
      refine o_aload Y3954 hx hby at_91 rfl rfl ?_
      refine own_st (fun t_ => XS.lconst (own_here Y3954) hx rfl (hb hby at_93) ) ?_
      show own_Ends _ _ _ _ (T3953.setTop (mkF m 94 #[iv x0, iv x1, iv x2, iv f0, iv f1, iv f2, iv y0, iv y1, iv y2, rv b3862, .unset, .unset, .unset, .unset] [(.long 0), (.ref b3862)]))
      refine own_st (fun t_ => XS.lconst (own_here Y3954) hx rfl (hb hby at_94) ) ?_
      show own_Ends _ _ _ _ (T3953.setTop (mkF m 95 #[iv x0, iv x1, iv x2, iv f0, iv f1, iv f2, iv y0, iv y1, iv y2, rv b3862, .unset, .unset, .unset, .unset] [(.long 1), (.long 0), (.ref b3862)]))
      refine own_callV Y3954 hx hZ (y := (⟨"kombos/graph/Graph$Builder", "addEdge", "(JJ)V"⟩ : MethodName)) (z := (⟨"kombos/graph/Graph$Builder", "addEdge", "(JJ)V"⟩ : MethodName)) hown (own_w hw 251 rfl) (own_w hw 252 rfl) (notFace_of_selects (args := #[]) (mvT hZ (own_w hw 254 rfl))) (own_w hw 254 rfl) (own_w hw 253 rfl) (own_w hw 2 rfl) (own_w hw 255 rfl) (by decide) (a := b3862) f4164 (argsL := [(.long 0), (.long 1)]) (rest := []) (own_rm29_0 l Z a0 hw [] b3862 (0 : Int64) (1 : Int64) sa ta ix el (0 : Int32) (1 : Int32) h3955 n0 z4200 f4164 f4167 f4170 f4173 f4176 f4179 f4182 f4183 f4186 f4187 f4190 f4193 f4196 F3959 F3960 F3961 F3962 F3963 F3964 F3965 (Ne.symm ne3915) (Ne.symm ne3917) (Ne.symm ne3919) ne3913 ne3914 g3864 (by decide) (by decide) (by decide) (by decide) rfl rfl f4203 f4206 f4209 f4212 g3916 g3918 ne3912) (W := 0) (by decide) (by decide) (by decide) (by decide) rfl (by rw [hml]; rfl) (lenOf own_pd23 rfl) rfl (by show 2 * 0 + _ ≤ _; exact Nat.le_of_eq rfl) (hb hby at_95) (fun T4396 h4398 v4399 Y4397 q4400 => ?_)
      obtain ⟨bs, bt, S, T, lS, lT, rfl, K4401, F4402, F4403, F4404, F4405, F4406, F4407, F4408, F4409, F4410, F4411, F4412, F4413, F4414, F4415, F4416, F4417, F4418, hz4419, hz4420, ne4421⟩ := q4400
      have ne4422 : b3862 ≠ bs := Nat.ne_of_lt (Nat.lt_of_lt_of_le f4164.lt hz4419)
      have ne4423 : ix ≠ bs := Nat.ne_of_lt (Nat.lt_of_lt_of_le F3959.lt hz4419)
      have ne4424 : sa ≠ bs := Nat.ne_of_lt (Nat.lt_of_lt_of_le f4203.lt hz4419)
      have ne4425 : ta ≠ bs := Nat.ne_of_lt (Nat.lt_of_lt_of_le f4209.lt hz4419)
      have g4426 : n0 ≤ bs := Nat.le_trans z4200 hz4419
      have ne4427 : b3862 ≠ bt := Nat.ne_of_lt (Nat.lt_of_lt_of_le f4164.lt hz4420)
      have ne4428 : ix ≠ bt := Nat.ne_of_lt (Nat.lt_of_lt_of_le F3959.lt hz4420)
      have ne4429 : sa ≠ bt := Nat.ne_of_lt (Nat.lt_of_lt_of_le f4203.lt hz4420)
      have ne4430 : ta ≠ bt := Nat.ne_of_lt (Nat.lt_of_lt_of_le f4209.lt hz4420)
      have g4431 : n0 ≤ bt := Nat.le_trans z4200 hz4420
      show own_Ends _ _ _ _ (T4396.setTop (mkF m 98 #[iv x0, iv x1, iv x2, iv f0, iv f1, iv f2, iv y0, iv y1, iv y2, rv b3862, .unset, .unset, .unset, .unset] []))
      refine o_iload Y4397 hx hby at_98 rfl ?_
      by_cases c100_4432 : f1 = (0 : Int32)
      ·
       refine o_ifYes Y4397 hx hby (pc' := 112) at_100 rfl (XT.i0_eq_t c100_4432) (by decide) (by decide) ?_
       refine o_iload Y4397 hx hby at_112 rfl ?_
       by_cases c114_4433 : f2 = (0 : Int32)
       ·
        refine o_ifYes Y4397 hx hby (pc' := 126) at_114 rfl (XT.i0_eq_t c114_4433) (by decide) (by decide) ?_
        refine o_aload Y4397 hx hby at_126 rfl rfl ?_
        have f4434 := F3959.keep K4401
        have f4435 := F3961.keep K4401 (ninS (Ne.symm ne3919) (ninS (Ne.symm ne3913) (ninS (Ne.symm ne3914) nin0)))
        have f4436 := F3965.keep K4401 (ninS (Ne.symm ne3919) (ninS (Ne.symm ne3913) (ninS (Ne.symm ne3914) nin0)))
        have z4437 : n0 ≤ h4398.size := Nat.le_trans z4200 K4401.1
        refine own_callV Y4397 hx hZ (y := (⟨"kombos/graph/Graph$Builder", "build", "()Lkombos/graph/Graph;"⟩ : MethodName)) (z := (⟨"kombos/graph/Graph$Builder", "build", "()Lkombos/graph/Graph;"⟩ : MethodName)) hown (own_w hw 87 rfl) (own_w hw 88 rfl) (notFace_of_selects (args := #[]) (mvT hZ (own_w hw 90 rfl))) (own_w hw 90 rfl) (own_w hw 89 rfl) (own_w hw 2 rfl) (own_w hw 91 rfl) (by decide) (a := b3862) F4402 (argsL := []) (rest := []) (own_rm12_1 l Z a0 hw [] b3862 sa ta ix el bs bt (S.set 0 (0 : Int32)) (T.set 0 (1 : Int32)) [0] [1] [1, 0] 1 0 1 1 0 1 2 2 2 1 2 h4398 n0 z4437 F4402 F4403 F4404 F4405 F4406 F4407 F4408 F4409 F4410 F4411 F4412 F4413 F4414 f4434 f4435 f4436 (Ne.symm ne3915) (Ne.symm ne3917) (Ne.symm ne3919) g3864 F4415 F4416 F4417 F4418 (by simp [lS]) (by simp [lT]) (own_gs1 lS 0) (own_gs1 lT 1) (by decide +kernel) (by decide +kernel) (by decide +kernel) (by decide +kernel) (by decide +kernel) (by decide +kernel) (by decide +kernel) (Ne.symm ne4422) (Ne.symm ne4427)) (W := 0) (by decide) (by decide) (by decide) (by decide) rfl (by rw [hml]; rfl) (lenOf own_pd22 rfl) rfl (by show 2 * 0 + _ ≤ _; exact Nat.le_of_eq rfl) (hb hby at_128) (fun T4438 h4440 v4441 Y4439 q4442 => ?_)
        obtain ⟨gr, ea, ga, rfl, z4443, F4444, F4445, F4446, F4447, F4448, F4449, F4450, F4451, F4452, F4453⟩ := q4442
        show own_Ends _ _ _ _ (T4438.setTop (mkF m 131 #[iv x0, iv x1, iv x2, iv f0, iv f1, iv f2, iv y0, iv y1, iv y2, rv b3862, .unset, .unset, .unset, .unset] [(.ref gr)]))
        exact hJ3966 T4438 h4440  (gr) (ea) (ga) ([1, 0]) ([0, 0, (-1)]) ([1, 1, (-1)]) ([1, 1, 2]) ([0, 0, (-1)]) ([1, 1, (-1)]) ([1, 1, 2]) ([0, 2, 2]) ([1, 2, 2]) ([1, 2, 2]) ([0, 0]) ([1, 0]) ([1, 0]) (1) (2) (2) (1) (1) (0) (1) (1) (0) (1) (2) (2) (1) (2) (2) (2) (1) (2) (2) (2) (1) (2) (2) Y4439 z4443 F4444 F4445 F4446 F4447 F4448 F4449 F4450 F4451 F4453 (by decide +kernel) (by decide +kernel) (by decide +kernel) (by decide +kernel) (by decide +kernel) (by decide +kernel) (by decide +kernel) (by decide +kernel) (by decide +kernel) (by decide +kernel) (by decide +kernel) (by decide +kernel) (by decide +kernel) (by decide +kernel) (by decide +kernel) (by decide +kernel) (by decide +kernel) (by decide +kernel) (by decide +kernel) (by decide +kernel) (by decide +kernel) (by decide +kernel) (by decide +kernel) (by decide +kernel) (by decide +kernel) (by decide +kernel) (by decide +kernel) (by decide +kernel) (by decide +kernel) (by decide +kernel) (by decide +kernel) (by decide +kernel) (by decide +kernel) (by decide +kernel) (by decide +kernel) (by decide +kernel) (by decide +kernel) (by decide +kernel) (by decide +kernel) (own_pl1 f0 f1 f2 y0 y1 y2 c88_4213 c100_4432 c114_4433)
       ·
        refine o_ifNo Y4397 hx hby at_114 rfl (XT.i0_eq_f c114_4433) ?_
        refine o_aload Y4397 hx hby at_117 rfl rfl ?_
        refine own_st (fun t_ => XS.lconst (own_here Y4397) hx rfl (hb hby at_119) ) ?_
        show own_Ends _ _ _ _ (T4396.setTop (mkF m 120 #[iv x0, iv x1, iv x2, iv f0, iv f1, iv f2, iv y0, iv y1, iv y2, rv b3862, .unset, .unset, .unset, .unset] [(.long 1), (.ref b3862)]))
        refine own_ldcJ Y4397 hx hZ hown (own_w hw 86 rfl) rfl (hb hby at_120) ?_
        show own_Ends _ _ _ _ (T4396.setTop (mkF m 123 #[iv x0, iv x1, iv x2, iv f0, iv f1, iv f2, iv y0, iv y1, iv y2, rv b3862, .unset, .unset, .unset, .unset] [(.long 2), (.long 1), (.ref b3862)]))
        have f4454 := F3959.keep K4401
        have f4455 := F3960.keep K4401 (ninS (Ne.symm ne3919) (ninS (Ne.symm ne3913) (ninS (Ne.symm ne3914) nin0)))
        have f4456 := F3961.keep K4401 (ninS (Ne.symm ne3919) (ninS (Ne.symm ne3913) (ninS (Ne.symm ne3914) nin0)))
        have f4457 := F3962.keep K4401 (ninS (Ne.symm ne3919) (ninS (Ne.symm ne3913) (ninS (Ne.symm ne3914) nin0)))
        have f4458 := F3963.keep K4401 (ninS (Ne.symm ne3919) (ninS (Ne.symm ne3913) (ninS (Ne.symm ne3914) nin0)))
        have f4459 := F3964.keep K4401 (ninS (Ne.symm ne3919) (ninS (Ne.symm ne3913) (ninS (Ne.symm ne3914) nin0)))
        have f4460 := F3965.keep K4401 (ninS (Ne.symm ne3919) (ninS (Ne.symm ne3913) (ninS (Ne.symm ne3914) nin0)))
        refine own_callV Y4397 hx hZ (y := (⟨"kombos/graph/Graph$Builder", "addEdge", "(JJ)V"⟩ : MethodName)) (z := (⟨"kombos/graph/Graph$Builder", "addEdge", "(JJ)V"⟩ : MethodName)) hown (own_w hw 251 rfl) (own_w hw 252 rfl) (notFace_of_selects (args := #[]) (mvT hZ (own_w hw 254 rfl))) (own_w hw 254 rfl) (own_w hw 253 rfl) (own_w hw 2 rfl) (own_w hw 255 rfl) (by decide) (a := b3862) F4402 (argsL := [(.long 1), (.long 2)]) (rest := []) (own_rm29_1 l Z a0 hw [] b3862 (1 : Int64) (2 : Int64) sa ta ix el (1 : Int32) (2 : Int32) bs bt (S.set 0 (0 : Int32)) (T.set 0 (1 : Int32)) h4398 n0  F4402 F4403 F4404 F4405 F4406 F4407 F4408 F4409 F4410 F4411 F4412 F4413 F4414 f4454 f4455 f4456 f4457 f4458 f4459 f4460 (Ne.symm ne3915) (Ne.symm ne3917) (Ne.symm ne3919) ne3913 ne3914 g3864 (by decide) (by decide) (by decide) (by decide) rfl rfl F4415 F4416 F4417 F4418 (by simp [lS]) (by simp [lT]) g4426 g4431 ne4421 (Ne.symm ne4422) (Ne.symm ne4424) (Ne.symm ne4425) (Ne.symm ne4423) (Ne.symm ne4427) (Ne.symm ne4429) (Ne.symm ne4430) (Ne.symm ne4428) ne3912) (W := 0) (by decide) (by decide) (by decide) (by decide) rfl (by rw [hml]; rfl) (lenOf own_pd23 rfl) rfl (by show 2 * 0 + _ ≤ _; exact Nat.le_of_eq rfl) (hb hby at_123) (fun T4461 h4463 v4464 Y4462 q4465 => ?_)
        obtain ⟨rfl, K4466, F4467, F4468, F4469, F4470, F4471, F4472, F4473, F4474, F4475, F4476, F4477, F4478, F4479, F4480, F4481⟩ := q4465
        show own_Ends _ _ _ _ (T4461.setTop (mkF m 126 #[iv x0, iv x1, iv x2, iv f0, iv f1, iv f2, iv y0, iv y1, iv y2, rv b3862, .unset, .unset, .unset, .unset] []))
        refine o_aload Y4462 hx hby at_126 rfl rfl ?_
        have f4482 := f4454.keep K4466
        have f4483 := f4456.keep K4466 (ninS (Ne.symm ne3919) (ninS ne4423 (ninS ne4428 nin0)))
        have f4484 := f4460.keep K4466 (ninS (Ne.symm ne3919) (ninS ne4423 (ninS ne4428 nin0)))
        have f4485 := F4415.keep K4466 (ninS (Ne.symm ne3915) (ninS ne4424 (ninS ne4429 nin0)))
        have f4486 := F4416.keep K4466 (ninS (Ne.symm ne3917) (ninS ne4425 (ninS ne4430 nin0)))
        have z4487 : n0 ≤ h4398.size := Nat.le_trans z4200 K4401.1
        have z4488 : n0 ≤ h4463.size := Nat.le_trans z4487 K4466.1
        refine own_callV Y4462 hx hZ (y := (⟨"kombos/graph/Graph$Builder", "build", "()Lkombos/graph/Graph;"⟩ : MethodName)) (z := (⟨"kombos/graph/Graph$Builder", "build", "()Lkombos/graph/Graph;"⟩ : MethodName)) hown (own_w hw 87 rfl) (own_w hw 88 rfl) (notFace_of_selects (args := #[]) (mvT hZ (own_w hw 90 rfl))) (own_w hw 90 rfl) (own_w hw 89 rfl) (own_w hw 2 rfl) (own_w hw 91 rfl) (by decide) (a := b3862) F4467 (argsL := []) (rest := []) (own_rm12_1 l Z a0 hw [] b3862 sa ta ix el bs bt ((S.set 0 (0 : Int32)).set 1 (1 : Int32)) ((T.set 0 (1 : Int32)).set 1 (2 : Int32)) [0, 1] [1, 2] [1, 0, 2, 1] 2 0 1 2 1 1 3 4 4 2 4 h4463 n0 z4488 F4467 F4468 F4469 F4470 F4471 F4472 F4473 F4474 F4475 F4476 F4477 F4478 F4479 f4482 f4483 f4484 (Ne.symm ne3915) (Ne.symm ne3917) (Ne.symm ne3919) g3864 f4485 f4486 F4480 F4481 (by simp [lS]) (by simp [lT]) (own_gs2 lS 0 1) (own_gs2 lT 1 2) (by decide +kernel) (by decide +kernel) (by decide +kernel) (by decide +kernel) (by decide +kernel) (by decide +kernel) (by decide +kernel) (Ne.symm ne4422) (Ne.symm ne4427)) (W := 0) (by decide) (by decide) (by decide) (by decide) rfl (by rw [hml]; rfl) (lenOf own_pd22 rfl) rfl (by show 2 * 0 + _ ≤ _; exact Nat.le_of_eq rfl) (hb hby at_128) (fun T4489 h4491 v4492 Y4490 q4493 => ?_)
        obtain ⟨gr, ea, ga, rfl, z4494, F4495, F4496, F4497, F4498, F4499, F4500, F4501, F4502, F4503, F4504⟩ := q4493
        show own_Ends _ _ _ _ (T4489.setTop (mkF m 131 #[iv x0, iv x1, iv x2, iv f0, iv f1, iv f2, iv y0, iv y1, iv y2, rv b3862, .unset, .unset, .unset, .unset] [(.ref gr)]))
        exact hJ3966 T4489 h4491  (gr) (ea) (ga) ([1, 0, 2, 1]) ([0, 0, (-1)]) ([1, 1, 1]) ([1, 2, 2]) ([0, 0, (-1)]) ([1, 1, 1]) ([1, 2, 2]) ([0, 2, 3]) ([1, 2, 4]) ([1, 3, 4]) ([0, 0, 0, 0]) ([1, 0, 0, 1]) ([1, 0, 2, 1]) (1) (3) (4) (1) (2) (1) (1) (2) (1) (1) (3) (4) (1) (3) (4) (4) (1) (3) (4) (4) (1) (3) (4) Y4490 z4494 F4495 F4496 F4497 F4498 F4499 F4500 F4501 F4502 F4504 (by decide +kernel) (by decide +kernel) (by decide +kernel) (by decide +kernel) (by decide +kernel) (by decide +kernel) (by decide +kernel) (by decide +kernel) (by decide +kernel) (by decide +kernel) (by decide +kernel) (by decide +kernel) (by decide +kernel) (by decide +kernel) (by decide +kernel) (by decide +kernel) (by decide +kernel) (by decide +kernel) (by decide +kernel) (by decide +kernel) (by decide +kernel) (by decide +kernel) (by decide +kernel) (by decide +kernel) (by decide +kernel) (by decide +kernel) (by decide +kernel) (by decide +kernel) (by decide +kernel) (by decide +kernel) (by decide +kernel) (by decide +kernel) (by decide +kernel) (by decide +kernel) (by decide +kernel) (by decide +kernel) (by decide +kernel) (by decide +kernel) (by decide +kernel) (own_pl5 f0 f1 f2 y0 y1 y2 c88_4213 c100_4432 c114_4433)
      ·
       refine o_ifNo Y4397 hx hby at_100 rfl (XT.i0_eq_f c100_4432) ?_
       refine o_aload Y4397 hx hby at_103 rfl rfl ?_
       refine own_st (fun t_ => XS.lconst (own_here Y4397) hx rfl (hb hby at_105) ) ?_
       show own_Ends _ _ _ _ (T4396.setTop (mkF m 106 #[iv x0, iv x1, iv x2, iv f0, iv f1, iv f2, iv y0, iv y1, iv y2, rv b3862, .unset, .unset, .unset, .unset] [(.long 0), (.ref b3862)]))
       refine own_ldcJ Y4397 hx hZ hown (own_w hw 86 rfl) rfl (hb hby at_106) ?_
       show own_Ends _ _ _ _ (T4396.setTop (mkF m 109 #[iv x0, iv x1, iv x2, iv f0, iv f1, iv f2, iv y0, iv y1, iv y2, rv b3862, .unset, .unset, .unset, .unset] [(.long 2), (.long 0), (.ref b3862)]))
       have f4505 := F3959.keep K4401
       have f4506 := F3960.keep K4401 (ninS (Ne.symm ne3919) (ninS (Ne.symm ne3913) (ninS (Ne.symm ne3914) nin0)))
       have f4507 := F3961.keep K4401 (ninS (Ne.symm ne3919) (ninS (Ne.symm ne3913) (ninS (Ne.symm ne3914) nin0)))
       have f4508 := F3962.keep K4401 (ninS (Ne.symm ne3919) (ninS (Ne.symm ne3913) (ninS (Ne.symm ne3914) nin0)))
       have f4509 := F3963.keep K4401 (ninS (Ne.symm ne3919) (ninS (Ne.symm ne3913) (ninS (Ne.symm ne3914) nin0)))
       have f4510 := F3964.keep K4401 (ninS (Ne.symm ne3919) (ninS (Ne.symm ne3913) (ninS (Ne.symm ne3914) nin0)))
       have f4511 := F3965.keep K4401 (ninS (Ne.symm ne3919) (ninS (Ne.symm ne3913) (ninS (Ne.symm ne3914) nin0)))
       refine own_callV Y4397 hx hZ (y := (⟨"kombos/graph/Graph$Builder", "addEdge", "(JJ)V"⟩ : MethodName)) (z := (⟨"kombos/graph/Graph$Builder", "addEdge", "(JJ)V"⟩ : MethodName)) hown (own_w hw 251 rfl) (own_w hw 252 rfl) (notFace_of_selects (args := #[]) (mvT hZ (own_w hw 254 rfl))) (own_w hw 254 rfl) (own_w hw 253 rfl) (own_w hw 2 rfl) (own_w hw 255 rfl) (by decide) (a := b3862) F4402 (argsL := [(.long 0), (.long 2)]) (rest := []) (own_rm29_1 l Z a0 hw [] b3862 (0 : Int64) (2 : Int64) sa ta ix el (0 : Int32) (2 : Int32) bs bt (S.set 0 (0 : Int32)) (T.set 0 (1 : Int32)) h4398 n0  F4402 F4403 F4404 F4405 F4406 F4407 F4408 F4409 F4410 F4411 F4412 F4413 F4414 f4505 f4506 f4507 f4508 f4509 f4510 f4511 (Ne.symm ne3915) (Ne.symm ne3917) (Ne.symm ne3919) ne3913 ne3914 g3864 (by decide) (by decide) (by decide) (by decide) rfl rfl F4415 F4416 F4417 F4418 (by simp [lS]) (by simp [lT]) g4426 g4431 ne4421 (Ne.symm ne4422) (Ne.symm ne4424) (Ne.symm ne4425) (Ne.symm ne4423) (Ne.symm ne4427) (Ne.symm ne4429) (Ne.symm ne4430) (Ne.symm ne4428) ne3912) (W := 0) (by decide) (by decide) (by decide) (by decide) rfl (by rw [hml]; rfl) (lenOf own_pd23 rfl) rfl (by show 2 * 0 + _ ≤ _; exact Nat.le_of_eq rfl) (hb hby at_109) (fun T4512 h4514 v4515 Y4513 q4516 => ?_)
       obtain ⟨rfl, K4517, F4518, F4519, F4520, F4521, F4522, F4523, F4524, F4525, F4526, F4527, F4528, F4529, F4530, F4531, F4532⟩ := q4516
       show own_Ends _ _ _ _ (T4512.setTop (mkF m 112 #[iv x0, iv x1, iv x2, iv f0, iv f1, iv f2, iv y0, iv y1, iv y2, rv b3862, .unset, .unset, .unset, .unset] []))
       refine o_iload Y4513 hx hby at_112 rfl ?_
       by_cases c114_4533 : f2 = (0 : Int32)
       ·
        refine o_ifYes Y4513 hx hby (pc' := 126) at_114 rfl (XT.i0_eq_t c114_4533) (by decide) (by decide) ?_
        refine o_aload Y4513 hx hby at_126 rfl rfl ?_
        have f4534 := f4505.keep K4517
        have f4535 := f4507.keep K4517 (ninS (Ne.symm ne3919) (ninS ne4423 (ninS ne4428 nin0)))
        have f4536 := f4511.keep K4517 (ninS (Ne.symm ne3919) (ninS ne4423 (ninS ne4428 nin0)))
        have f4537 := F4415.keep K4517 (ninS (Ne.symm ne3915) (ninS ne4424 (ninS ne4429 nin0)))
        have f4538 := F4416.keep K4517 (ninS (Ne.symm ne3917) (ninS ne4425 (ninS ne4430 nin0)))
        have z4539 : n0 ≤ h4398.size := Nat.le_trans z4200 K4401.1
        have z4540 : n0 ≤ h4514.size := Nat.le_trans z4539 K4517.1
        refine own_callV Y4513 hx hZ (y := (⟨"kombos/graph/Graph$Builder", "build", "()Lkombos/graph/Graph;"⟩ : MethodName)) (z := (⟨"kombos/graph/Graph$Builder", "build", "()Lkombos/graph/Graph;"⟩ : MethodName)) hown (own_w hw 87 rfl) (own_w hw 88 rfl) (notFace_of_selects (args := #[]) (mvT hZ (own_w hw 90 rfl))) (own_w hw 90 rfl) (own_w hw 89 rfl) (own_w hw 2 rfl) (own_w hw 91 rfl) (by decide) (a := b3862) F4518 (argsL := []) (rest := []) (own_rm12_1 l Z a0 hw [] b3862 sa ta ix el bs bt ((S.set 0 (0 : Int32)).set 1 (0 : Int32)) ((T.set 0 (1 : Int32)).set 1 (2 : Int32)) [0, 0] [1, 2] [1, 2, 0, 0] 2 0 2 1 1 2 3 4 4 2 4 h4514 n0 z4540 F4518 F4519 F4520 F4521 F4522 F4523 F4524 F4525 F4526 F4527 F4528 F4529 F4530 f4534 f4535 f4536 (Ne.symm ne3915) (Ne.symm ne3917) (Ne.symm ne3919) g3864 f4537 f4538 F4531 F4532 (by simp [lS]) (by simp [lT]) (own_gs2 lS 0 0) (own_gs2 lT 1 2) (by decide +kernel) (by decide +kernel) (by decide +kernel) (by decide +kernel) (by decide +kernel) (by decide +kernel) (by decide +kernel) (Ne.symm ne4422) (Ne.symm ne4427)) (W := 0) (by decide) (by decide) (by decide) (by decide) rfl (by rw [hml]; rfl) (lenOf own_pd22 rfl) rfl (by show 2 * 0 + _ ≤ _; exact Nat.le_of_eq rfl) (hb hby at_128) (fun T4541 h4543 v4544 Y4542 q4545 => ?_)
        obtain ⟨gr, ea, ga, rfl, z4546, F4547, F4548, F4549, F4550, F4551, F4552, F4553, F4554, F4555, F4556⟩ := q4545
        show own_Ends _ _ _ _ (T4541.setTop (mkF m 131 #[iv x0, iv x1, iv x2, iv f0, iv f1, iv f2, iv y0, iv y1, iv y2, rv b3862, .unset, .unset, .unset, .unset] [(.ref gr)]))
        exact hJ3966 T4541 h4543  (gr) (ea) (ga) ([1, 2, 0, 0]) ([0, 0, 0]) ([1, 1, 0]) ([2, 1, 2]) ([0, 0, 0]) ([1, 1, 0]) ([2, 1, 2]) ([0, 3, 4]) ([1, 3, 4]) ([2, 3, 4]) ([0, 0, 0, 0]) ([1, 0, 0, 0]) ([1, 2, 0, 0]) (2) (3) (4) (2) (1) (1) (2) (1) (1) (2) (3) (4) (2) (3) (4) (4) (2) (3) (4) (4) (2) (3) (4) Y4542 z4546 F4547 F4548 F4549 F4550 F4551 F4552 F4553 F4554 F4556 (by decide +kernel) (by decide +kernel) (by decide +kernel) (by decide +kernel) (by decide +kernel) (by decide +kernel) (by decide +kernel) (by decide +kernel) (by decide +kernel) (by decide +kernel) (by decide +kernel) (by decide +kernel) (by decide +kernel) (by decide +kernel) (by decide +kernel) (by decide +kernel) (by decide +kernel) (by decide +kernel) (by decide +kernel) (by decide +kernel) (by decide +kernel) (by decide +kernel) (by decide +kernel) (by decide +kernel) (by decide +kernel) (by decide +kernel) (by decide +kernel) (by decide +kernel) (by decide +kernel) (by decide +kernel) (by decide +kernel) (by decide +kernel) (by decide +kernel) (by decide +kernel) (by decide +kernel) (by decide +kernel) (by decide +kernel) (by decide +kernel) (by decide +kernel) (own_pl3 f0 f1 f2 y0 y1 y2 c88_4213 c100_4432 c114_4533)
       ·
        refine o_ifNo Y4513 hx hby at_114 rfl (XT.i0_eq_f c114_4533) ?_
        refine o_aload Y4513 hx hby at_117 rfl rfl ?_
        refine own_st (fun t_ => XS.lconst (own_here Y4513) hx rfl (hb hby at_119) ) ?_
        show own_Ends _ _ _ _ (T4512.setTop (mkF m 120 #[iv x0, iv x1, iv x2, iv f0, iv f1, iv f2, iv y0, iv y1, iv y2, rv b3862, .unset, .unset, .unset, .unset] [(.long 1), (.ref b3862)]))
        refine own_ldcJ Y4513 hx hZ hown (own_w hw 86 rfl) rfl (hb hby at_120) ?_
        show own_Ends _ _ _ _ (T4512.setTop (mkF m 123 #[iv x0, iv x1, iv x2, iv f0, iv f1, iv f2, iv y0, iv y1, iv y2, rv b3862, .unset, .unset, .unset, .unset] [(.long 2), (.long 1), (.ref b3862)]))
        have f4557 := f4505.keep K4517
        have f4558 := f4506.keep K4517 (ninS (Ne.symm ne3919) (ninS ne4423 (ninS ne4428 nin0)))
        have f4559 := f4507.keep K4517 (ninS (Ne.symm ne3919) (ninS ne4423 (ninS ne4428 nin0)))
        have f4560 := f4508.keep K4517 (ninS (Ne.symm ne3919) (ninS ne4423 (ninS ne4428 nin0)))
        have f4561 := f4509.keep K4517 (ninS (Ne.symm ne3919) (ninS ne4423 (ninS ne4428 nin0)))
        have f4562 := f4510.keep K4517 (ninS (Ne.symm ne3919) (ninS ne4423 (ninS ne4428 nin0)))
        have f4563 := f4511.keep K4517 (ninS (Ne.symm ne3919) (ninS ne4423 (ninS ne4428 nin0)))
        have f4564 := F4415.keep K4517 (ninS (Ne.symm ne3915) (ninS ne4424 (ninS ne4429 nin0)))
        have f4565 := F4416.keep K4517 (ninS (Ne.symm ne3917) (ninS ne4425 (ninS ne4430 nin0)))
        refine own_callV Y4513 hx hZ (y := (⟨"kombos/graph/Graph$Builder", "addEdge", "(JJ)V"⟩ : MethodName)) (z := (⟨"kombos/graph/Graph$Builder", "addEdge", "(JJ)V"⟩ : MethodName)) hown (own_w hw 251 rfl) (own_w hw 252 rfl) (notFace_of_selects (args := #[]) (mvT hZ (own_w hw 254 rfl))) (own_w hw 254 rfl) (own_w hw 253 rfl) (own_w hw 2 rfl) (own_w hw 255 rfl) (by decide) (a := b3862) F4518 (argsL := [(.long 1), (.long 2)]) (rest := []) (own_rm29_2 l Z a0 hw [] b3862 (1 : Int64) (2 : Int64) sa ta ix el (1 : Int32) (2 : Int32) bs bt ((S.set 0 (0 : Int32)).set 1 (0 : Int32)) ((T.set 0 (1 : Int32)).set 1 (2 : Int32)) h4514 n0  F4518 F4519 F4520 F4521 F4522 F4523 F4524 F4525 F4526 F4527 F4528 F4529 F4530 f4557 f4558 f4559 f4560 f4561 f4562 f4563 (Ne.symm ne3915) (Ne.symm ne3917) (Ne.symm ne3919) ne3913 ne3914 g3864 (by decide) (by decide) (by decide) (by decide) rfl rfl f4564 f4565 F4531 F4532 (by simp [lS]) (by simp [lT]) g4426 g4431 ne4421 (Ne.symm ne4422) (Ne.symm ne4424) (Ne.symm ne4425) (Ne.symm ne4423) (Ne.symm ne4427) (Ne.symm ne4429) (Ne.symm ne4430) (Ne.symm ne4428) ne3912) (W := 0) (by decide) (by decide) (by decide) (by decide) rfl (by rw [hml]; rfl) (lenOf own_pd23 rfl) rfl (by show 2 * 0 + _ ≤ _; exact Nat.le_of_eq rfl) (hb hby at_123) (fun T4566 h4568 v4569 Y4567 q4570 => ?_)
        obtain ⟨rfl, K4571, F4572, F4573, F4574, F4575, F4576, F4577, F4578, F4579, F4580, F4581, F4582, F4583, F4584, F4585, F4586⟩ := q4570
        show own_Ends _ _ _ _ (T4566.setTop (mkF m 126 #[iv x0, iv x1, iv x2, iv f0, iv f1, iv f2, iv y0, iv y1, iv y2, rv b3862, .unset, .unset, .unset, .unset] []))
        refine o_aload Y4567 hx hby at_126 rfl rfl ?_
        have f4587 := f4557.keep K4571
        have f4588 := f4559.keep K4571 (ninS (Ne.symm ne3919) (ninS ne4423 (ninS ne4428 nin0)))
        have f4589 := f4563.keep K4571 (ninS (Ne.symm ne3919) (ninS ne4423 (ninS ne4428 nin0)))
        have f4590 := f4564.keep K4571 (ninS (Ne.symm ne3915) (ninS ne4424 (ninS ne4429 nin0)))
        have f4591 := f4565.keep K4571 (ninS (Ne.symm ne3917) (ninS ne4425 (ninS ne4430 nin0)))
        have z4592 : n0 ≤ h4398.size := Nat.le_trans z4200 K4401.1
        have z4593 : n0 ≤ h4514.size := Nat.le_trans z4592 K4517.1
        have z4594 : n0 ≤ h4568.size := Nat.le_trans z4593 K4571.1
        refine own_callV Y4567 hx hZ (y := (⟨"kombos/graph/Graph$Builder", "build", "()Lkombos/graph/Graph;"⟩ : MethodName)) (z := (⟨"kombos/graph/Graph$Builder", "build", "()Lkombos/graph/Graph;"⟩ : MethodName)) hown (own_w hw 87 rfl) (own_w hw 88 rfl) (notFace_of_selects (args := #[]) (mvT hZ (own_w hw 90 rfl))) (own_w hw 90 rfl) (own_w hw 89 rfl) (own_w hw 2 rfl) (own_w hw 91 rfl) (by decide) (a := b3862) F4572 (argsL := []) (rest := []) (own_rm12_1 l Z a0 hw [] b3862 sa ta ix el bs bt (((S.set 0 (0 : Int32)).set 1 (0 : Int32)).set 2 (1 : Int32)) (((T.set 0 (1 : Int32)).set 1 (2 : Int32)).set 2 (2 : Int32)) [0, 0, 1] [1, 2, 2] [1, 2, 0, 2, 0, 1] 3 0 2 2 2 2 4 6 6 3 6 h4568 n0 z4594 F4572 F4573 F4574 F4575 F4576 F4577 F4578 F4579 F4580 F4581 F4582 F4583 F4584 f4587 f4588 f4589 (Ne.symm ne3915) (Ne.symm ne3917) (Ne.symm ne3919) g3864 f4590 f4591 F4585 F4586 (by simp [lS]) (by simp [lT]) (own_gs3 lS 0 0 1) (own_gs3 lT 1 2 2) (by decide +kernel) (by decide +kernel) (by decide +kernel) (by decide +kernel) (by decide +kernel) (by decide +kernel) (by decide +kernel) (Ne.symm ne4422) (Ne.symm ne4427)) (W := 0) (by decide) (by decide) (by decide) (by decide) rfl (by rw [hml]; rfl) (lenOf own_pd22 rfl) rfl (by show 2 * 0 + _ ≤ _; exact Nat.le_of_eq rfl) (hb hby at_128) (fun T4595 h4597 v4598 Y4596 q4599 => ?_)
        obtain ⟨gr, ea, ga, rfl, z4600, F4601, F4602, F4603, F4604, F4605, F4606, F4607, F4608, F4609, F4610⟩ := q4599
        show own_Ends _ _ _ _ (T4595.setTop (mkF m 131 #[iv x0, iv x1, iv x2, iv f0, iv f1, iv f2, iv y0, iv y1, iv y2, rv b3862, .unset, .unset, .unset, .unset] [(.ref gr)]))
        exact hJ3966 T4595 h4597  (gr) (ea) (ga) ([1, 2, 0, 2, 0, 1]) ([0, 0, 0]) ([1, 1, 1]) ([2, 2, 2]) ([0, 0, 0]) ([1, 1, 1]) ([2, 2, 2]) ([0, 3, 5]) ([1, 3, 6]) ([2, 4, 6]) ([0, 0, 0, 0, 0, 0]) ([1, 0, 0, 0, 0, 1]) ([1, 2, 0, 2, 0, 1]) (2) (4) (6) (2) (2) (2) (2) (2) (2) (2) (4) (6) (2) (4) (6) (6) (2) (4) (6) (6) (2) (4) (6) Y4596 z4600 F4601 F4602 F4603 F4604 F4605 F4606 F4607 F4608 F4610 (by decide +kernel) (by decide +kernel) (by decide +kernel) (by decide +kernel) (by decide +kernel) (by decide +kernel) (by decide +kernel) (by decide +kernel) (by decide +kernel) (by decide +kernel) (by decide +kernel) (by decide +kernel) (by decide +kernel) (by decide +kernel) (by decide +kernel) (by decide +kernel) (by decide +kernel) (by decide +kernel) (by decide +kernel) (by decide +kernel) (by decide +kernel) (by decide +kernel) (by decide +kernel) (by decide +kernel) (by decide +kernel) (by decide +kernel) (by decide +kernel) (by decide +kernel) (by decide +kernel) (by decide +kernel) (by decide +kernel) (by decide +kernel) (by decide +kernel) (by decide +kernel) (by decide +kernel) (by decide +kernel) (by decide +kernel) (by decide +kernel) (by decide +kernel) (own_pl7 f0 f1 f2 y0 y1 y2 c88_4213 c100_4432 c114_4533)
    by_cases c28_4611 : (x0 &&& (4 : Int32)) = (0 : Int32)
    ·
     refine o_ifYes Y3852 hx hby (pc' := 35) at_28 rfl (XT.i0_eq_t c28_4611) (by decide) (by decide) ?_
     refine o_iconst Y3852 hx hby at_35 (x := 0) rfl ?_
     exact hJ3853 T3851   ((0 : Int32)) Y3852  
    ·
     refine o_ifNo Y3852 hx hby at_28 rfl (XT.i0_eq_f c28_4611) ?_
     refine o_iconst Y3852 hx hby at_31 (x := 1) rfl ?_
     refine o_goto Y3852 hx hby (pc' := 36) at_32 (by decide) (by decide) ?_
     exact hJ3853 T3851   ((1 : Int32)) Y3852  
   by_cases c15_4612 : (x0 &&& (2 : Int32)) = (0 : Int32)
   ·
    refine o_ifYes Y3849 hx hby (pc' := 22) at_15 rfl (XT.i0_eq_t c15_4612) (by decide) (by decide) ?_
    refine o_iconst Y3849 hx hby at_22 (x := 0) rfl ?_
    exact hJ3850 T3848   ((0 : Int32)) Y3849  
   ·
    refine o_ifNo Y3849 hx hby at_15 rfl (XT.i0_eq_f c15_4612) ?_
    refine o_iconst Y3849 hx hby at_18 (x := 1) rfl ?_
    refine o_goto Y3849 hx hby (pc' := 23) at_19 (by decide) (by decide) ?_
    exact hJ3850 T3848   ((1 : Int32)) Y3849  
  by_cases c3_4613 : (x0 &&& (1 : Int32)) = (0 : Int32)
  ·
   refine o_ifYes Y0 hx hby (pc' := 10) at_3 rfl (XT.i0_eq_t c3_4613) (by decide) (by decide) ?_
   refine o_iconst Y0 hx hby at_10 (x := 0) rfl ?_
   exact hJ3847 T0   ((0 : Int32)) Y0  
  ·
   refine o_ifNo Y0 hx hby at_3 rfl (XT.i0_eq_f c3_4613) ?_
   refine o_iconst Y0 hx hby at_6 (x := 1) rfl ?_
   refine o_goto Y0 hx hby (pc' := 11) at_7 (by decide) (by decide) ?_
   exact hJ3847 T0   ((1 : Int32)) Y0  
set_option maxRecDepth 65536 in
set_option maxHeartbeats 40000000 in
theorem own_comes_1 {Post : Tables → Env → Array Value → State → Outcome → State → Prop} (hpost : ∀ tb e args s v u, (limb_1_1.after args s (.returned v) u = true ∧ limb_1_2.after args s (.returned v) u = true ∧ True) → FrameEnd s (.returned v) u (Jvm.fieldLocs frame_1_writes args s ++ Jvm.arrayLocs frame_1_arrays args s ++ Jvm.staticLocs frame_1_statics s) 64 33152 → Post tb e args s (.returned v) u) :
    ArmFor flags0 classFile x code maxLocals ret World_1 tables_1 room_1 Calls_1 rest_1 Pre_1 Post := by
  intro l hfl _ _ p e ha hc hk s m args below hf hA hF happ hP
  obtain ⟨hcalls, hrest, hpre⟩ := hP
  obtain ⟨-, -, -, hnamed, -, -, -, hat⟩ := (Spec.applies_iff hf).mp happ
  obtain ⟨hg, hn⟩ := and_e (Cond.before_iff.mp (show (Jvm.Cond.and given_1 narrow_1).before args s = true from hpre))
  obtain ⟨g1, g2⟩ := and_e hg
  obtain ⟨g3, g4⟩ := and_e g2
  obtain ⟨g5, g6⟩ := and_e g4
  obtain ⟨w0, w1, w2, rfl⟩ : ∃ w0 w1 w2 : Value, args = #[w0, w1, w2] := by
    have hs : args.size = 3 := by simpa [Cond.value, given_1] using g1
    obtain ⟨L⟩ := args
    match L, hs with
    | [w0, w1, w2], _ => exact ⟨w0, w1, w2, rfl⟩
  have hw := fun d (hd : d ∈ tables_1) => atoms_spec (ws := Jvm.Cond.code x code maxLocals ret :: tables_1) hat d (List.mem_cons_of_mem _ hd)
  have hfit : Fit s := fun {y c} hc i hi => by
    obtain ⟨ha, rfl⟩ := Array.getElem?_eq_some_iff.mp hc
    have q := List.all_eq_true.mp ((Array.all_eq_true_iff_forall_mem.mp hF) _ (Array.getElem_mem ha)) i (List.mem_range.mpr hi)
    simpa [Array.getElem?_eq_getElem hi] using q
  obtain ⟨hsets, hown0⟩ := atoms_of _ (rest_1_c_eq ▸ (show rest_1_c.before _ s = true from hrest))
  have hr0 := Cond.before_iff.mp hown0
  obtain ⟨i0, ei0⟩ := is_v g3
  obtain rfl : w0 = (.int i0) := Option.some.inj ei0
  obtain ⟨i1, ei1⟩ := is_v g5
  obtain rfl : w1 = (.int i1) := Option.some.inj ei1
  obtain ⟨i2, ei2⟩ := is_v g6
  obtain rfl : w2 = (.int i2) := Option.some.inj ei2
  obtain ⟨el, -, HE, -⟩ := own_static (Cond.before_iff.mp (hsets _ (List.mem_of_getElem? (i := 2) rfl))) (own_w hw 25 rfl) (hsets _ (List.mem_of_getElem? (i := 0) rfl))
  obtain ⟨n, o, h1, h2, h3, _, L, rfl, ⟨N, rfl⟩, hq⟩ := own_rm0 l s _ hw tables_1 i0 i1 i2 el s.heap s.heap.size (Nat.le_refl _) HE p e ha hc hk s m _ below hf ((Spec.applies_iff_loose hf).mp happ).1 ⟨rfl, State.Warmed39.refl s, rfl⟩ trivial
  refine ⟨n, _, h1, h2, h3, hpost _ _ _ _ _ _ ⟨Cond.after_iff.mpr rfl, Cond.after_iff.mpr (eq_i res_at (Term.int_eval (1)) rfl), trivial⟩ ⟨hq.1, hq.2.1, (hq.2.2.sift fun y hy => Or.inr (N y hy)).mono (by decide) (by decide)⟩⟩
theorem main_1_1 : Claimed_1_1 := own_comes_1 fun _ _ _ _ _ _ h hF => ⟨h.1, hF⟩
theorem main_1_2 : Claimed_1_2 := own_comes_1 fun _ _ _ _ _ _ h hF => ⟨h.2.1, hF⟩
end Jvm.Pilot.@@N@@
namespace Jvm.Pilot.@@N@@
open Jvm Jvm.ClassFile Sem Op Lib Jvm.Free Jvm.Stand Jvm.Pilot.@@N@@.Jvm.D
/-! MADE BY PROGRAM (witnessworld.py) out of the Statement's table words and the real class files: 29 classes; the members and pool entries that the words name. The judged class is class 1, her method 1. -/
namespace start1
open Jvm.ClassFile
def u (s : String) : CpInfo := .utf8 (stringToUtf16 s)
/-- a pool by its gaps: so many unusable entries, then the entry; so many at the end -/
def gap : Nat → List CpInfo → List CpInfo
  | 0, r => r
  | n + 1, r => .unusable :: gap n r
def poolList (es : List (Nat × CpInfo)) (last : Nat) : List CpInfo := es.foldr (fun e r => gap e.1 (e.2 :: r)) (gap last [])
def pool (es : List (Nat × CpInfo)) (last : Nat) : Array CpInfo := ⟨poolList es last⟩
def fileOf (pool : Array CpInfo) (this : Nat) (attrs : Array Attribute := #[]) (ms : Array MethodInfo := #[]) (fl : Nat := 33) (sup : Nat := 0) (ifs : Array Nat := #[]) (fds : Array FieldInfo := #[]) : ClassFile where
  minorVersion := 0
  majorVersion := 65
  constantPool := pool
  accessFlags := fl
  thisClass := this
  superClass := sup
  interfaces := ifs
  fields := fds
  methods := ms
  attributes := attrs
def plain (name : String) (sup : Option ClassId) : Class where
  name := name
  kind := .ordinary
  loader := none
  accessFlags := 33
  super := sup
  interfaces := #[]
  cf := none
  fields := #[]
  methods := #[]
  instanceTypes := #[]
  staticTypes := #[]
  resolved := #[]
  callSites := []
  init := .initialized
  statics := none
  mirror := none

def pool0 : Array CpInfo := pool [(5, u "<init>"), (0, u "()V"), (1, .class_ 10), (1, u "java/lang/Object")] 113

def k0c0 : Code := { maxStack := 0, maxLocals := 1, code := object_method_1_code, exceptionTable := #[], attributes := #[] }
def k0m0 : Method := { name := "<init>", desc := "()V", sig := { parameters := [], returnType := none }, accessFlags := 1, code := some k0c0 }
/-- java/lang/Object -/
def k0 : Class := { plain "java/lang/Object" none with
  accessFlags := 33
  interfaces := #[]
  cf := some (fileOf pool0 8 #[] #[{ accessFlags := 1, nameIndex := 5, descriptorIndex := 6, attributes := #[] }] 33 0 #[] #[])
  fields := #[]
  methods := #[k0m0]
  instanceTypes := #[]
  staticTypes := #[]
  resolved := Array.replicate 124 none
  statics := none }

def pool1 : Array CpInfo := pool [(2, .class_ 4), (1, u "java/lang/Object"), (0, u "<init>"), (0, u "()V"), (0, .class_ 8), (0, u "kombos/graph/Graph$Builder"), (0, .methodref 7 10), (0, .nameAndType 5 11), (0, u "(Z)V"), (0, .methodref 7 13), (0, .nameAndType 14 15), (0, u "addVertex"), (0, u "(J)V"), (0, .long 2), (1, .methodref 7 19), (0, .nameAndType 20 21), (0, u "addEdge"), (0, u "(JJ)V"), (0, .methodref 7 23), (0, .nameAndType 24 25), (0, u "build"), (0, u "()Lkombos/graph/Graph;"), (0, .methodref 27 28), (0, .class_ 29), (0, .nameAndType 30 31), (0, u "kombos/query/SimpleGraph"), (0, u "under"), (0, u "(Lkombos/graph/Graph;)Lkombos/query/SimpleGraph;"), (0, .class_ 33), (0, u "kombos/query/CellRefinement"), (0, .methodref 32 35), (0, .nameAndType 5 36), (0, u "(II)V"), (0, .methodref 32 38), (0, .nameAndType 39 40), (0, u "start"), (0, u "(Lkombos/query/SimpleGraph;[I)V"), (0, .methodref 32 42), (0, .nameAndType 43 44), (0, u "cutWeight"), (0, u "()I"), (0, .class_ 46), (0, u "kombos/query/CellRefinementCutWeightPinLaw"), (2, u "law"), (0, u "(III)Z")] 9

def k1m0 : Method := { name := "<init>", desc := "()V", sig := { parameters := [], returnType := none }, accessFlags := 1, code := none }
def k1c1 : Code := { maxStack := 5, maxLocals := 14, code := code, exceptionTable := #[], attributes := #[] }
def k1m1 : Method := { name := "law", desc := "(III)Z", sig := { parameters := [.int, .int, .int], returnType := some .boolean }, accessFlags := 9, code := some k1c1 }
/-- kombos/query/CellRefinementCutWeightPinLaw -/
def k1 : Class := { plain "kombos/query/CellRefinementCutWeightPinLaw" (some 0) with
  accessFlags := 49
  interfaces := #[]
  cf := some (fileOf pool1 45 #[] #[{ accessFlags := 1, nameIndex := 5, descriptorIndex := 6, attributes := #[] }, { accessFlags := 9, nameIndex := 49, descriptorIndex := 50, attributes := #[] }] 49 2 #[] #[])
  fields := #[]
  methods := #[k1m0, k1m1]
  instanceTypes := #[]
  staticTypes := #[]
  resolved := Array.replicate 60 none
  statics := none }

def pool2 : Array CpInfo := pool [(3, .class_ 4), (0, u "kombos/graph/Graph$Builder"), (2, .integer 536870912), (0, .integer 2147483639), (0, .methodref 3 10), (0, .nameAndType 11 12), (0, u "<init>"), (0, u "(ZII)V"), (0, .methodref 14 15), (0, .class_ 16), (0, .nameAndType 11 17), (0, u "java/lang/Object"), (0, u "()V"), (0, .class_ 19), (0, u "[I"), (0, .fieldref 3 21), (0, .nameAndType 22 23), (0, u "sources"), (0, u "[[I"), (0, .fieldref 3 25), (0, .nameAndType 26 23), (0, u "targets"), (0, .interfaceMethodref 28 29), (0, .class_ 30), (0, .nameAndType 31 32), (0, u "java/util/List"), (0, u "of"), (0, u "()Ljava/util/List;"), (0, .fieldref 3 34), (0, .nameAndType 35 36), (0, u "vertexColumns"), (0, u "Ljava/util/List;"), (0, .fieldref 3 38), (0, .nameAndType 39 36), (0, u "edgeColumns"), (0, .fieldref 3 41), (0, .nameAndType 42 43), (0, u "directed"), (0, u "Z"), (0, .fieldref 3 45), (0, .nameAndType 46 47), (0, u "maxVertices"), (0, u "I"), (0, .class_ 49), (0, u "kombos/graph/IdIndex"), (0, .methodref 48 51), (0, .nameAndType 11 52), (0, u "(I)V"), (0, .fieldref 3 54), (0, .nameAndType 55 56), (0, u "index"), (0, u "Lkombos/graph/IdIndex;"), (0, .fieldref 3 58), (0, .nameAndType 59 47), (0, u "maxEdges"), (2, u "(Z)V"), (1, .class_ 66), (1, u "kombos/graph/Graph"), (1, u "()I"), (10, u "addVertex"), (7, u "(J)V"), (3, .methodref 3 92), (0, .nameAndType 93 94), (0, u "vertexOf"), (0, u "(J)I"), (16, .fieldref 3 112), (0, .nameAndType 113 114), (0, u "keys"), (0, u "Lkombos/graph/KeyIndex;"), (0, .methodref 48 116), (0, .nameAndType 117 68), (0, u "size"), (10, u "add"), (0, .methodref 48 130), (0, .nameAndType 128 94), (0, .methodref 3 132), (0, .nameAndType 128 133), (0, u "(JJ)I"), (0, .fieldref 3 135), (0, .nameAndType 136 137), (0, u "weights"), (0, u "[[J"), (23, u "decimal"), (18, .fieldref 3 181), (0, .nameAndType 182 47), (0, u "edgeCount"), (10, .methodref 3 194), (0, .nameAndType 195 52), (0, u "startBlock"), (5, .methodref 3 202), (0, .nameAndType 203 204), (0, u "countEnds"), (0, u "([II)V"), (0, .methodref 3 206), (0, .nameAndType 207 208), (0, u "place"), (0, u "([I[I[JI)V"), (0, .methodref 210 211), (0, .class_ 212), (0, .nameAndType 213 214), (0, u "java/lang/System"), (0, u "arraycopy"), (0, u "(Ljava/lang/Object;ILjava/lang/Object;II)V"), (0, .methodref 48 216), (0, .nameAndType 217 17), (0, u "trimToSize"), (1, .methodref 64 220), (0, .nameAndType 11 221), (0, u "(Lkombos/graph/Graph$Builder;[I[I[J)V"), (0, .methodref 223 224), (0, .class_ 225), (0, .nameAndType 226 227), (0, u "java/lang/Math"), (0, u "min"), (0, u "(II)I"), (0, .methodref 3 229), (0, .nameAndType 230 231), (0, u "blockCount"), (0, u "(I)I"), (0, u "MAX_EDGES"), (1, u "BLOCK_BITS"), (1, u "BLOCK_SIZE"), (1, u "BLOCK_MASK"), (11, u "addEdge"), (0, u "(JJ)V"), (8, u "build"), (0, u "()Lkombos/graph/Graph;")] 23

def k2c0 : Code := { maxStack := 4, maxLocals := 2, code := prog_45_method_1_code, exceptionTable := #[], attributes := #[] }
def k2m0 : Method := { name := "<init>", desc := "(Z)V", sig := { parameters := [.boolean], returnType := none }, accessFlags := 1, code := some k2c0 }
def k2c1 : Code := { maxStack := 4, maxLocals := 4, code := prog_45_method_2_code, exceptionTable := #[], attributes := #[] }
def k2m1 : Method := { name := "<init>", desc := "(ZII)V", sig := { parameters := [.boolean, .int, .int], returnType := none }, accessFlags := 0, code := some k2c1 }
def k2c2 : Code := { maxStack := 3, maxLocals := 3, code := prog_45_method_5_code, exceptionTable := #[], attributes := #[] }
def k2m2 : Method := { name := "addVertex", desc := "(J)V", sig := { parameters := [.long], returnType := none }, accessFlags := 1, code := some k2c2 }
def k2c3 : Code := { maxStack := 5, maxLocals := 6, code := prog_45_method_8_code, exceptionTable := #[], attributes := #[] }
def k2m3 : Method := { name := "addEdge", desc := "(JJ)V", sig := { parameters := [.long, .long], returnType := none }, accessFlags := 1, code := some k2c3 }
def k2c4 : Code := { maxStack := 4, maxLocals := 3, code := prog_45_method_13_code, exceptionTable := #[], attributes := #[] }
def k2m4 : Method := { name := "vertexOf", desc := "(J)I", sig := { parameters := [.long], returnType := some .int }, accessFlags := 2, code := some k2c4 }
def k2c5 : Code := { maxStack := 4, maxLocals := 8, code := prog_45_method_16_code, exceptionTable := #[], attributes := #[] }
def k2m5 : Method := { name := "add", desc := "(JJ)I", sig := { parameters := [.long, .long], returnType := some .int }, accessFlags := 2, code := some k2c5 }
def k2c6 : Code := { maxStack := 4, maxLocals := 2, code := prog_45_method_17_code, exceptionTable := #[], attributes := #[] }
def k2m6 : Method := { name := "startBlock", desc := "(I)V", sig := { parameters := [.int], returnType := none }, accessFlags := 2, code := some k2c6 }
def k2c7 : Code := { maxStack := 6, maxLocals := 7, code := prog_45_method_18_code, exceptionTable := #[], attributes := #[] }
def k2m7 : Method := { name := "build", desc := "()Lkombos/graph/Graph;", sig := { parameters := [], returnType := some (.object "kombos/graph/Graph") }, accessFlags := 1, code := some k2c7 }
def k2c8 : Code := { maxStack := 4, maxLocals := 2, code := prog_45_method_19_code, exceptionTable := #[], attributes := #[] }
def k2m8 : Method := { name := "blockCount", desc := "(I)I", sig := { parameters := [.int], returnType := some .int }, accessFlags := 2, code := some k2c8 }
def k2c9 : Code := { maxStack := 4, maxLocals := 7, code := prog_45_method_20_code, exceptionTable := #[], attributes := #[] }
def k2m9 : Method := { name := "countEnds", desc := "([II)V", sig := { parameters := [(.array .int), .int], returnType := none }, accessFlags := 2, code := some k2c9 }
def k2c10 : Code := { maxStack := 5, maxLocals := 12, code := prog_45_method_21_code, exceptionTable := #[], attributes := #[] }
def k2m10 : Method := { name := "place", desc := "([I[I[JI)V", sig := { parameters := [(.array .int), (.array .int), (.array .long), .int], returnType := none }, accessFlags := 2, code := some k2c10 }
/-- kombos/graph/Graph$Builder -/
def k2 : Class := { plain "kombos/graph/Graph$Builder" (some 0) with
  accessFlags := 49
  interfaces := #[]
  cf := some (fileOf pool2 3 #[.nestHost 64] #[{ accessFlags := 1, nameIndex := 11, descriptorIndex := 62, attributes := #[] }, { accessFlags := 0, nameIndex := 11, descriptorIndex := 12, attributes := #[] }, { accessFlags := 1, nameIndex := 79, descriptorIndex := 87, attributes := #[] }, { accessFlags := 1, nameIndex := 250, descriptorIndex := 251, attributes := #[] }, { accessFlags := 2, nameIndex := 93, descriptorIndex := 94, attributes := #[] }, { accessFlags := 2, nameIndex := 128, descriptorIndex := 133, attributes := #[] }, { accessFlags := 2, nameIndex := 195, descriptorIndex := 52, attributes := #[] }, { accessFlags := 1, nameIndex := 260, descriptorIndex := 261, attributes := #[] }, { accessFlags := 2, nameIndex := 230, descriptorIndex := 231, attributes := #[] }, { accessFlags := 2, nameIndex := 203, descriptorIndex := 204, attributes := #[] }, { accessFlags := 2, nameIndex := 207, descriptorIndex := 208, attributes := #[] }] 49 14 #[] #[{ accessFlags := 25, nameIndex := 232, descriptorIndex := 47, attributes := #[] }, { accessFlags := 26, nameIndex := 234, descriptorIndex := 47, attributes := #[] }, { accessFlags := 26, nameIndex := 236, descriptorIndex := 47, attributes := #[] }, { accessFlags := 26, nameIndex := 238, descriptorIndex := 47, attributes := #[] }, { accessFlags := 18, nameIndex := 42, descriptorIndex := 43, attributes := #[] }, { accessFlags := 18, nameIndex := 46, descriptorIndex := 47, attributes := #[] }, { accessFlags := 18, nameIndex := 55, descriptorIndex := 56, attributes := #[] }, { accessFlags := 18, nameIndex := 59, descriptorIndex := 47, attributes := #[] }, { accessFlags := 2, nameIndex := 22, descriptorIndex := 23, attributes := #[] }, { accessFlags := 2, nameIndex := 26, descriptorIndex := 23, attributes := #[] }, { accessFlags := 2, nameIndex := 136, descriptorIndex := 137, attributes := #[] }, { accessFlags := 2, nameIndex := 161, descriptorIndex := 43, attributes := #[] }, { accessFlags := 2, nameIndex := 182, descriptorIndex := 47, attributes := #[] }, { accessFlags := 2, nameIndex := 113, descriptorIndex := 114, attributes := #[] }, { accessFlags := 2, nameIndex := 35, descriptorIndex := 36, attributes := #[] }, { accessFlags := 2, nameIndex := 39, descriptorIndex := 36, attributes := #[] }])
  fields := #[{ name := "MAX_EDGES", type := .int, accessFlags := 25, slot := 0, constantValue := 0 }, { name := "BLOCK_BITS", type := .int, accessFlags := 26, slot := 1, constantValue := 0 }, { name := "BLOCK_SIZE", type := .int, accessFlags := 26, slot := 2, constantValue := 0 }, { name := "BLOCK_MASK", type := .int, accessFlags := 26, slot := 3, constantValue := 0 }, { name := "directed", type := .boolean, accessFlags := 18, slot := 0, constantValue := 0 }, { name := "maxVertices", type := .int, accessFlags := 18, slot := 1, constantValue := 0 }, { name := "index", type := (.object "kombos/graph/IdIndex"), accessFlags := 18, slot := 2, constantValue := 0 }, { name := "maxEdges", type := .int, accessFlags := 18, slot := 3, constantValue := 0 }, { name := "sources", type := (.array (.array .int)), accessFlags := 2, slot := 4, constantValue := 0 }, { name := "targets", type := (.array (.array .int)), accessFlags := 2, slot := 5, constantValue := 0 }, { name := "weights", type := (.array (.array .long)), accessFlags := 2, slot := 6, constantValue := 0 }, { name := "decimal", type := .boolean, accessFlags := 2, slot := 7, constantValue := 0 }, { name := "edgeCount", type := .int, accessFlags := 2, slot := 8, constantValue := 0 }, { name := "keys", type := (.object "kombos/graph/KeyIndex"), accessFlags := 2, slot := 9, constantValue := 0 }, { name := "vertexColumns", type := (.object "java/util/List"), accessFlags := 2, slot := 10, constantValue := 0 }, { name := "edgeColumns", type := (.object "java/util/List"), accessFlags := 2, slot := 11, constantValue := 0 }]
  methods := #[k2m0, k2m1, k2m2, k2m3, k2m4, k2m5, k2m6, k2m7, k2m8, k2m9, k2m10]
  instanceTypes := #[.boolean, .int, (.object "kombos/graph/IdIndex"), .int, (.array (.array .int)), (.array (.array .int)), (.array (.array .long)), .boolean, .int, (.object "kombos/graph/KeyIndex"), (.object "java/util/List"), (.object "java/util/List")]
  staticTypes := #[.int, .int, .int, .int]
  resolved := Array.replicate 285 none
  statics := none }

def pool3 : Array CpInfo := pool [(8, .class_ 10), (1, u "java/lang/Iterable"), (24, .class_ 36), (0, u "java/lang/Object")] 25

/-- java/lang/Iterable -/
def k3 : Class := { plain "java/lang/Iterable" (some 0) with
  accessFlags := 1537
  interfaces := #[]
  cf := some (fileOf pool3 8 #[] #[] 1537 35 #[] #[])
  fields := #[]
  methods := #[]
  instanceTypes := #[]
  staticTypes := #[]
  resolved := Array.replicate 62 none
  statics := none }

def pool4 : Array CpInfo := pool [(10, .class_ 12), (1, u "java/util/Collection"), (47, .class_ 61), (0, u "java/lang/Object"), (0, .class_ 63), (0, u "java/lang/Iterable")] 51

/-- java/util/Collection -/
def k4 : Class := { plain "java/util/Collection" (some 0) with
  accessFlags := 1537
  interfaces := #[3]
  cf := some (fileOf pool4 10 #[] #[] 1537 60 #[62] #[])
  fields := #[]
  methods := #[]
  instanceTypes := #[]
  staticTypes := #[]
  resolved := Array.replicate 115 none
  statics := none }

def pool5 : Array CpInfo := pool [(8, .class_ 10), (1, u "java/util/SequencedCollection"), (15, .class_ 27), (0, u "java/lang/Object"), (0, .class_ 29), (0, u "java/util/Collection")] 27

/-- java/util/SequencedCollection -/
def k5 : Class := { plain "java/util/SequencedCollection" (some 0) with
  accessFlags := 1537
  interfaces := #[4]
  cf := some (fileOf pool5 8 #[] #[] 1537 26 #[28] #[])
  fields := #[]
  methods := #[]
  instanceTypes := #[]
  staticTypes := #[]
  resolved := Array.replicate 57 none
  statics := none }

def pool6 : Array CpInfo := pool [(8, .class_ 10), (1, u "java/util/List"), (77, u "of"), (1, .fieldref 91 92), (0, .class_ 93), (0, .nameAndType 94 95), (0, u "java/util/ImmutableCollections"), (0, u "EMPTY_LIST"), (0, u "Ljava/util/ImmutableCollections$ListN;"), (7, .class_ 104), (0, u "java/lang/Object"), (14, u "()Ljava/util/List;"), (0, .class_ 121), (0, u "java/util/SequencedCollection")] 129

def k6c0 : Code := { maxStack := 1, maxLocals := 0, code := jdk_40_method_36_code, exceptionTable := #[], attributes := #[] }
def k6m0 : Method := { name := "of", desc := "()Ljava/util/List;", sig := { parameters := [], returnType := some (.object "java/util/List") }, accessFlags := 9, code := some k6c0 }
/-- java/util/List -/
def k6 : Class := { plain "java/util/List" (some 0) with
  accessFlags := 1537
  interfaces := #[5]
  cf := some (fileOf pool6 8 #[] #[{ accessFlags := 9, nameIndex := 88, descriptorIndex := 119, attributes := #[] }] 1537 103 #[120] #[])
  fields := #[]
  methods := #[k6m0]
  instanceTypes := #[]
  staticTypes := #[]
  resolved := Array.replicate 251 none
  statics := none }

def pool7 : Array CpInfo := pool [(2, .class_ 4), (1, u "java/lang/Object"), (0, u "<init>"), (0, u "()V"), (3, .class_ 11), (0, u "java/util/ImmutableCollections$List12"), (0, .class_ 13), (0, u "java/util/ImmutableCollections$ListN"), (3, u "Z"), (29, .class_ 49), (1, u "java/util/ImmutableCollections"), (0, u "$assertionsDisabled"), (5, u "[Ljava/lang/Object;"), (5, u "EMPTY_LIST"), (0, u "Ljava/util/ImmutableCollections$ListN;"), (8, u "EMPTY_LIST_NULLS"), (22, u "SALT32L"), (0, u "J"), (2, u "REVERSE"), (6, u "archivedObjects"), (2, u "EMPTY"), (0, u "Ljava/lang/Object;"), (0, .class_ 112), (0, u "java/util/ImmutableCollections$SetN"), (5, u "EMPTY_SET"), (0, u "Ljava/util/ImmutableCollections$SetN;"), (0, .class_ 121), (0, u "java/util/ImmutableCollections$MapN"), (3, u "EMPTY_MAP"), (0, u "Ljava/util/ImmutableCollections$MapN;"), (4, u "EXPAND_FACTOR"), (0, u "I"), (36, .class_ 170), (0, u "java/util/ImmutableCollections$MapN$MapNIterator"), (0, .class_ 172), (0, u "java/util/ImmutableCollections$MapN$1"), (0, .class_ 174), (0, u "java/util/ImmutableCollections$Map1"), (0, .class_ 176), (0, u "java/util/ImmutableCollections$AbstractImmutableMap"), (0, .class_ 178), (0, u "java/util/ImmutableCollections$SetN$SetNIterator"), (0, .class_ 180), (0, u "java/util/ImmutableCollections$Set12"), (0, .class_ 182), (0, u "java/util/ImmutableCollections$Set12$1"), (0, .class_ 184), (0, u "java/util/ImmutableCollections$AbstractImmutableSet"), (0, .class_ 186), (0, u "java/util/ImmutableCollections$SubList"), (0, .class_ 188), (0, u "java/util/ImmutableCollections$ListItr"), (0, .class_ 190), (0, u "java/util/ImmutableCollections$AbstractImmutableList"), (0, .class_ 192), (0, u "java/util/ImmutableCollections$AbstractImmutableCollection"), (0, .class_ 194), (0, u "java/util/ImmutableCollections$Access"), (0, .class_ 196), (0, u "java/util/ImmutableCollections$Access$1")] 16

def k7m0 : Method := { name := "<init>", desc := "()V", sig := { parameters := [], returnType := none }, accessFlags := 2, code := none }
/-- java/util/ImmutableCollections -/
def k7 : Class := { plain "java/util/ImmutableCollections" (some 0) with
  accessFlags := 32
  interfaces := #[]
  cf := some (fileOf pool7 47 #[.nestMembers #[120, 169, 171, 173, 175, 111, 177, 179, 181, 183, 12, 10, 185, 187, 189, 191, 193, 195]] #[{ accessFlags := 2, nameIndex := 5, descriptorIndex := 6, attributes := #[] }] 32 2 #[] #[{ accessFlags := 26, nameIndex := 95, descriptorIndex := 96, attributes := #[] }, { accessFlags := 26, nameIndex := 99, descriptorIndex := 17, attributes := #[] }, { accessFlags := 10, nameIndex := 106, descriptorIndex := 56, attributes := #[] }, { accessFlags := 26, nameIndex := 109, descriptorIndex := 110, attributes := #[] }, { accessFlags := 24, nameIndex := 62, descriptorIndex := 63, attributes := #[] }, { accessFlags := 24, nameIndex := 72, descriptorIndex := 63, attributes := #[] }, { accessFlags := 24, nameIndex := 118, descriptorIndex := 119, attributes := #[] }, { accessFlags := 24, nameIndex := 125, descriptorIndex := 126, attributes := #[] }, { accessFlags := 24, nameIndex := 131, descriptorIndex := 132, attributes := #[] }, { accessFlags := 4120, nameIndex := 50, descriptorIndex := 17, attributes := #[] }])
  fields := #[{ name := "SALT32L", type := .long, accessFlags := 26, slot := 0, constantValue := 0 }, { name := "REVERSE", type := .boolean, accessFlags := 26, slot := 1, constantValue := 0 }, { name := "archivedObjects", type := (.array (.object "java/lang/Object")), accessFlags := 10, slot := 2, constantValue := 0 }, { name := "EMPTY", type := (.object "java/lang/Object"), accessFlags := 26, slot := 3, constantValue := 0 }, { name := "EMPTY_LIST", type := (.object "java/util/ImmutableCollections$ListN"), accessFlags := 24, slot := 4, constantValue := 0 }, { name := "EMPTY_LIST_NULLS", type := (.object "java/util/ImmutableCollections$ListN"), accessFlags := 24, slot := 5, constantValue := 0 }, { name := "EMPTY_SET", type := (.object "java/util/ImmutableCollections$SetN"), accessFlags := 24, slot := 6, constantValue := 0 }, { name := "EMPTY_MAP", type := (.object "java/util/ImmutableCollections$MapN"), accessFlags := 24, slot := 7, constantValue := 0 }, { name := "EXPAND_FACTOR", type := .int, accessFlags := 24, slot := 8, constantValue := 0 }, { name := "$assertionsDisabled", type := .boolean, accessFlags := 4120, slot := 9, constantValue := 0 }]
  methods := #[k7m0]
  instanceTypes := #[]
  staticTypes := #[.long, .boolean, (.array (.object "java/lang/Object")), (.object "java/lang/Object"), (.object "java/util/ImmutableCollections$ListN"), (.object "java/util/ImmutableCollections$ListN"), (.object "java/util/ImmutableCollections$SetN"), (.object "java/util/ImmutableCollections$MapN"), .int, .boolean]
  resolved := Array.replicate 213 none
  statics := some 0 }

def pool8 : Array CpInfo := pool [(1, .methodref 2 3), (0, .class_ 4), (0, .nameAndType 5 6), (0, u "java/lang/Object"), (0, u "<init>"), (0, u "()V"), (0, .fieldref 8 9), (0, .class_ 10), (0, .nameAndType 11 12), (0, u "kombos/graph/IdIndex"), (0, u "maxSize"), (0, u "I"), (0, .fieldref 8 14), (0, .nameAndType 15 12), (0, u "size"), (0, .fieldref 8 17), (0, .nameAndType 18 19), (0, u "ids"), (0, u "[J"), (0, .fieldref 8 21), (0, .nameAndType 22 23), (0, u "first"), (0, u "J"), (0, .fieldref 8 25), (0, .nameAndType 26 27), (0, u "direct"), (0, u "[I"), (0, .fieldref 8 29), (0, .nameAndType 30 27), (0, u "slots"), (14, .methodref 8 46), (0, .nameAndType 47 48), (0, u "indexOf"), (0, u "(J)I"), (0, .methodref 8 50), (0, .nameAndType 51 48), (0, u "addNew"), (4, .methodref 8 57), (0, .nameAndType 58 48), (0, u "addWithoutRoom"), (15, .class_ 76), (1, u "java/lang/Math"), (1, u "(II)I"), (0, .methodref 74 80), (0, .nameAndType 81 78), (0, u "min"), (29, u "(I)V"), (2, u "shift"), (10, u "key"), (6, u "LEAST_DIRECT_BOUND"), (3, u "()I"), (3, u "add"), (2, u "trimToSize")] 2

def k8c0 : Code := { maxStack := 2, maxLocals := 2, code := prog_47_method_1_code, exceptionTable := #[], attributes := #[] }
def k8m0 : Method := { name := "<init>", desc := "(I)V", sig := { parameters := [.int], returnType := none }, accessFlags := 0, code := some k8c0 }
def k8c1 : Code := { maxStack := 1, maxLocals := 1, code := prog_47_method_2_code, exceptionTable := #[], attributes := #[] }
def k8m1 : Method := { name := "size", desc := "()I", sig := { parameters := [], returnType := some .int }, accessFlags := 0, code := some k8c1 }
def k8c2 : Code := { maxStack := 7, maxLocals := 5, code := prog_47_method_4_code, exceptionTable := #[], attributes := #[] }
def k8m2 : Method := { name := "indexOf", desc := "(J)I", sig := { parameters := [.long], returnType := some .int }, accessFlags := 0, code := some k8c2 }
def k8c3 : Code := { maxStack := 3, maxLocals := 4, code := prog_47_method_5_code, exceptionTable := #[], attributes := #[] }
def k8m3 : Method := { name := "add", desc := "(J)I", sig := { parameters := [.long], returnType := some .int }, accessFlags := 0, code := some k8c3 }
def k8c4 : Code := { maxStack := 4, maxLocals := 4, code := prog_47_method_6_code, exceptionTable := #[], attributes := #[] }
def k8m4 : Method := { name := "addNew", desc := "(J)I", sig := { parameters := [.long], returnType := some .int }, accessFlags := 2, code := some k8c4 }
def k8c5 : Code := { maxStack := 6, maxLocals := 4, code := prog_47_method_8_code, exceptionTable := #[], attributes := #[] }
def k8m5 : Method := { name := "addWithoutRoom", desc := "(J)I", sig := { parameters := [.long], returnType := some .int }, accessFlags := 2, code := some k8c5 }
def k8c6 : Code := { maxStack := 3, maxLocals := 1, code := prog_47_method_11_code, exceptionTable := #[], attributes := #[] }
def k8m6 : Method := { name := "trimToSize", desc := "()V", sig := { parameters := [], returnType := none }, accessFlags := 0, code := some k8c6 }
/-- kombos/graph/IdIndex -/
def k8 : Class := { plain "kombos/graph/IdIndex" (some 0) with
  accessFlags := 48
  interfaces := #[]
  cf := some (fileOf pool8 8 #[] #[{ accessFlags := 0, nameIndex := 5, descriptorIndex := 111, attributes := #[] }, { accessFlags := 0, nameIndex := 15, descriptorIndex := 136, attributes := #[] }, { accessFlags := 0, nameIndex := 47, descriptorIndex := 48, attributes := #[] }, { accessFlags := 0, nameIndex := 140, descriptorIndex := 48, attributes := #[] }, { accessFlags := 2, nameIndex := 51, descriptorIndex := 48, attributes := #[] }, { accessFlags := 2, nameIndex := 58, descriptorIndex := 48, attributes := #[] }, { accessFlags := 0, nameIndex := 143, descriptorIndex := 6, attributes := #[] }] 48 2 #[] #[{ accessFlags := 26, nameIndex := 132, descriptorIndex := 12, attributes := #[] }, { accessFlags := 18, nameIndex := 11, descriptorIndex := 12, attributes := #[] }, { accessFlags := 2, nameIndex := 18, descriptorIndex := 19, attributes := #[] }, { accessFlags := 2, nameIndex := 22, descriptorIndex := 23, attributes := #[] }, { accessFlags := 2, nameIndex := 26, descriptorIndex := 27, attributes := #[] }, { accessFlags := 2, nameIndex := 30, descriptorIndex := 27, attributes := #[] }, { accessFlags := 2, nameIndex := 125, descriptorIndex := 23, attributes := #[] }, { accessFlags := 2, nameIndex := 114, descriptorIndex := 12, attributes := #[] }, { accessFlags := 2, nameIndex := 15, descriptorIndex := 12, attributes := #[] }])
  fields := #[{ name := "LEAST_DIRECT_BOUND", type := .int, accessFlags := 26, slot := 0, constantValue := 0 }, { name := "maxSize", type := .int, accessFlags := 18, slot := 0, constantValue := 0 }, { name := "ids", type := (.array .long), accessFlags := 2, slot := 1, constantValue := 0 }, { name := "first", type := .long, accessFlags := 2, slot := 2, constantValue := 0 }, { name := "direct", type := (.array .int), accessFlags := 2, slot := 3, constantValue := 0 }, { name := "slots", type := (.array .int), accessFlags := 2, slot := 4, constantValue := 0 }, { name := "key", type := .long, accessFlags := 2, slot := 5, constantValue := 0 }, { name := "shift", type := .int, accessFlags := 2, slot := 6, constantValue := 0 }, { name := "size", type := .int, accessFlags := 2, slot := 7, constantValue := 0 }]
  methods := #[k8m0, k8m1, k8m2, k8m3, k8m4, k8m5, k8m6]
  instanceTypes := #[.int, (.array .long), .long, (.array .int), (.array .int), .long, .int, .int]
  staticTypes := #[.int]
  resolved := Array.replicate 146 none
  statics := none }

def pool9 : Array CpInfo := pool [(2, .class_ 4), (1, u "java/lang/Object"), (0, u "<init>"), (0, u "()V"), (1, .class_ 10), (1, u "java/lang/System"), (0, u "allowSecurityManager"), (0, u "I"), (16, u "cons"), (0, u "Ljava/io/Console;"), (77, .class_ 110), (1, u "java/lang/System$CallersHolder"), (43, u "initialErrStream"), (0, u "Ljava/io/PrintStream;"), (19, u "security"), (0, u "Ljava/lang/SecurityManager;"), (31, .class_ 209), (0, u "java/lang/System$1"), (7, u "props"), (0, u "Ljava/util/Properties;"), (2, u "lineSeparator"), (0, u "Ljava/lang/String;"), (96, .class_ 321), (1, u "java/lang/System$LoggerFinder"), (5, .class_ 328), (0, u "java/lang/System$Logger"), (67, u "err"), (2, u "out"), (91, u "notSupportedJnuEncoding"), (15, u "in"), (17, u "initialIn"), (0, u "Ljava/io/InputStream;"), (35, u "bootLayer"), (0, u "Ljava/lang/ModuleLayer;"), (99, .class_ 664), (0, u "java/lang/System$2"), (9, u "NEVER"), (2, u "MAYBE"), (49, u "arraycopy"), (0, u "(Ljava/lang/Object;ILjava/lang/Object;II)V"), (72, .class_ 802), (0, u "java/lang/System$Logger$Level")] 31

def k9m0 : Method := { name := "<init>", desc := "()V", sig := { parameters := [], returnType := none }, accessFlags := 2, code := none }
def k9m1 : Method := { name := "arraycopy", desc := "(Ljava/lang/Object;ILjava/lang/Object;II)V", sig := { parameters := [(.object "java/lang/Object"), .int, (.object "java/lang/Object"), .int, .int], returnType := none }, accessFlags := 265, code := none }
/-- java/lang/System -/
def k9 : Class := { plain "java/lang/System" (some 0) with
  accessFlags := 49
  interfaces := #[]
  cf := some (fileOf pool9 8 #[.nestMembers #[319, 327, 801, 108, 663, 208]] #[{ accessFlags := 2, nameIndex := 5, descriptorIndex := 6, attributes := #[] }, { accessFlags := 265, nameIndex := 727, descriptorIndex := 728, attributes := #[] }] 49 2 #[] #[{ accessFlags := 25, nameIndex := 507, descriptorIndex := 526, attributes := #[] }, { accessFlags := 25, nameIndex := 399, descriptorIndex := 155, attributes := #[] }, { accessFlags := 25, nameIndex := 396, descriptorIndex := 155, attributes := #[] }, { accessFlags := 10, nameIndex := 525, descriptorIndex := 526, attributes := #[] }, { accessFlags := 26, nameIndex := 674, descriptorIndex := 12, attributes := #[] }, { accessFlags := 26, nameIndex := 677, descriptorIndex := 12, attributes := #[] }, { accessFlags := 10, nameIndex := 11, descriptorIndex := 12, attributes := #[] }, { accessFlags := 74, nameIndex := 175, descriptorIndex := 176, attributes := #[] }, { accessFlags := 10, nameIndex := 491, descriptorIndex := 222, attributes := #[] }, { accessFlags := 74, nameIndex := 29, descriptorIndex := 30, attributes := #[] }, { accessFlags := 74, nameIndex := 154, descriptorIndex := 155, attributes := #[] }, { accessFlags := 10, nameIndex := 217, descriptorIndex := 218, attributes := #[] }, { accessFlags := 10, nameIndex := 221, descriptorIndex := 222, attributes := #[] }, { accessFlags := 8, nameIndex := 562, descriptorIndex := 563, attributes := #[] }])
  fields := #[{ name := "in", type := (.object "java/io/InputStream"), accessFlags := 25, slot := 0, constantValue := 0 }, { name := "out", type := (.object "java/io/PrintStream"), accessFlags := 25, slot := 1, constantValue := 0 }, { name := "err", type := (.object "java/io/PrintStream"), accessFlags := 25, slot := 2, constantValue := 0 }, { name := "initialIn", type := (.object "java/io/InputStream"), accessFlags := 10, slot := 3, constantValue := 0 }, { name := "NEVER", type := .int, accessFlags := 26, slot := 4, constantValue := 0 }, { name := "MAYBE", type := .int, accessFlags := 26, slot := 5, constantValue := 0 }, { name := "allowSecurityManager", type := .int, accessFlags := 10, slot := 6, constantValue := 0 }, { name := "security", type := (.object "java/lang/SecurityManager"), accessFlags := 74, slot := 7, constantValue := 0 }, { name := "notSupportedJnuEncoding", type := (.object "java/lang/String"), accessFlags := 10, slot := 8, constantValue := 0 }, { name := "cons", type := (.object "java/io/Console"), accessFlags := 74, slot := 9, constantValue := 0 }, { name := "initialErrStream", type := (.object "java/io/PrintStream"), accessFlags := 74, slot := 10, constantValue := 0 }, { name := "props", type := (.object "java/util/Properties"), accessFlags := 10, slot := 11, constantValue := 0 }, { name := "lineSeparator", type := (.object "java/lang/String"), accessFlags := 10, slot := 12, constantValue := 0 }, { name := "bootLayer", type := (.object "java/lang/ModuleLayer"), accessFlags := 8, slot := 13, constantValue := 0 }]
  methods := #[k9m0, k9m1]
  instanceTypes := #[]
  staticTypes := #[(.object "java/io/InputStream"), (.object "java/io/PrintStream"), (.object "java/io/PrintStream"), (.object "java/io/InputStream"), .int, .int, .int, (.object "java/lang/SecurityManager"), (.object "java/lang/String"), (.object "java/io/Console"), (.object "java/io/PrintStream"), (.object "java/util/Properties"), (.object "java/lang/String"), (.object "java/lang/ModuleLayer")]
  resolved := Array.replicate 834 none
  statics := none }

def pool10 : Array CpInfo := pool [(1, .methodref 2 3), (0, .class_ 4), (0, .nameAndType 5 6), (0, u "java/lang/Object"), (0, u "<init>"), (0, u "()V"), (0, .fieldref 8 9), (0, .class_ 10), (0, .nameAndType 11 12), (0, u "kombos/graph/Graph$Builder"), (0, u "index"), (0, u "Lkombos/graph/IdIndex;"), (0, .fieldref 14 9), (0, .class_ 15), (0, u "kombos/graph/Graph"), (0, .fieldref 8 17), (0, .nameAndType 18 19), (0, u "keys"), (0, u "Lkombos/graph/KeyIndex;"), (0, .fieldref 14 17), (0, .fieldref 8 22), (0, .nameAndType 23 24), (0, u "directed"), (0, u "Z"), (0, .fieldref 14 22), (0, .fieldref 8 27), (0, .nameAndType 28 29), (0, u "edgeCount"), (0, u "I"), (0, .fieldref 14 27), (0, .fieldref 14 32), (0, .nameAndType 33 34), (0, u "edgeStart"), (0, u "[I"), (0, .fieldref 14 36), (0, .nameAndType 37 34), (0, u "edgeTarget"), (0, .fieldref 14 39), (0, .nameAndType 40 41), (0, u "edgeWeight"), (0, u "[J"), (0, .fieldref 8 43), (0, .nameAndType 44 24), (0, u "decimal"), (0, .fieldref 14 43), (0, .fieldref 8 47), (0, .nameAndType 48 49), (0, u "vertexColumns"), (0, u "Ljava/util/List;"), (0, .fieldref 14 47), (0, .fieldref 8 52), (0, .nameAndType 53 49), (0, u "edgeColumns"), (0, .fieldref 14 52), (0, .methodref 56 57), (0, .class_ 58), (0, .nameAndType 59 60), (0, u "kombos/graph/IdIndex"), (0, u "size"), (0, u "()I"), (44, u "()Z"), (32, u "vertexCount"), (11, u "(Lkombos/graph/Graph$Builder;[I[I[J)V"), (5, u "isDirected"), (7, u "firstEdge"), (0, u "(I)I"), (0, u "endEdge"), (0, u "target")] 11

def k10c0 : Code := { maxStack := 2, maxLocals := 5, code := prog_44_method_1_code, exceptionTable := #[], attributes := #[] }
def k10m0 : Method := { name := "<init>", desc := "(Lkombos/graph/Graph$Builder;[I[I[J)V", sig := { parameters := [(.object "kombos/graph/Graph$Builder"), (.array .int), (.array .int), (.array .long)], returnType := none }, accessFlags := 2, code := some k10c0 }
def k10c1 : Code := { maxStack := 1, maxLocals := 1, code := prog_44_method_3_code, exceptionTable := #[], attributes := #[] }
def k10m1 : Method := { name := "vertexCount", desc := "()I", sig := { parameters := [], returnType := some .int }, accessFlags := 1, code := some k10c1 }
def k10c2 : Code := { maxStack := 1, maxLocals := 1, code := prog_44_method_5_code, exceptionTable := #[], attributes := #[] }
def k10m2 : Method := { name := "isDirected", desc := "()Z", sig := { parameters := [], returnType := some .boolean }, accessFlags := 1, code := some k10c2 }
def k10c3 : Code := { maxStack := 2, maxLocals := 2, code := prog_44_method_15_code, exceptionTable := #[], attributes := #[] }
def k10m3 : Method := { name := "firstEdge", desc := "(I)I", sig := { parameters := [.int], returnType := some .int }, accessFlags := 1, code := some k10c3 }
def k10c4 : Code := { maxStack := 3, maxLocals := 2, code := prog_44_method_16_code, exceptionTable := #[], attributes := #[] }
def k10m4 : Method := { name := "endEdge", desc := "(I)I", sig := { parameters := [.int], returnType := some .int }, accessFlags := 1, code := some k10c4 }
def k10c5 : Code := { maxStack := 2, maxLocals := 2, code := prog_44_method_17_code, exceptionTable := #[], attributes := #[] }
def k10m5 : Method := { name := "target", desc := "(I)I", sig := { parameters := [.int], returnType := some .int }, accessFlags := 1, code := some k10c5 }
/-- kombos/graph/Graph -/
def k10 : Class := { plain "kombos/graph/Graph" (some 0) with
  accessFlags := 49
  interfaces := #[]
  cf := some (fileOf pool10 14 #[.nestMembers #[8]] #[{ accessFlags := 2, nameIndex := 5, descriptorIndex := 150, attributes := #[] }, { accessFlags := 1, nameIndex := 138, descriptorIndex := 60, attributes := #[] }, { accessFlags := 1, nameIndex := 156, descriptorIndex := 105, attributes := #[] }, { accessFlags := 1, nameIndex := 164, descriptorIndex := 165, attributes := #[] }, { accessFlags := 1, nameIndex := 166, descriptorIndex := 165, attributes := #[] }, { accessFlags := 1, nameIndex := 167, descriptorIndex := 165, attributes := #[] }] 49 2 #[] #[{ accessFlags := 18, nameIndex := 11, descriptorIndex := 12, attributes := #[] }, { accessFlags := 18, nameIndex := 18, descriptorIndex := 19, attributes := #[] }, { accessFlags := 18, nameIndex := 23, descriptorIndex := 24, attributes := #[] }, { accessFlags := 18, nameIndex := 28, descriptorIndex := 29, attributes := #[] }, { accessFlags := 18, nameIndex := 33, descriptorIndex := 34, attributes := #[] }, { accessFlags := 18, nameIndex := 37, descriptorIndex := 34, attributes := #[] }, { accessFlags := 18, nameIndex := 40, descriptorIndex := 41, attributes := #[] }, { accessFlags := 18, nameIndex := 44, descriptorIndex := 24, attributes := #[] }, { accessFlags := 18, nameIndex := 48, descriptorIndex := 49, attributes := #[] }, { accessFlags := 18, nameIndex := 53, descriptorIndex := 49, attributes := #[] }])
  fields := #[{ name := "index", type := (.object "kombos/graph/IdIndex"), accessFlags := 18, slot := 0, constantValue := 0 }, { name := "keys", type := (.object "kombos/graph/KeyIndex"), accessFlags := 18, slot := 1, constantValue := 0 }, { name := "directed", type := .boolean, accessFlags := 18, slot := 2, constantValue := 0 }, { name := "edgeCount", type := .int, accessFlags := 18, slot := 3, constantValue := 0 }, { name := "edgeStart", type := (.array .int), accessFlags := 18, slot := 4, constantValue := 0 }, { name := "edgeTarget", type := (.array .int), accessFlags := 18, slot := 5, constantValue := 0 }, { name := "edgeWeight", type := (.array .long), accessFlags := 18, slot := 6, constantValue := 0 }, { name := "decimal", type := .boolean, accessFlags := 18, slot := 7, constantValue := 0 }, { name := "vertexColumns", type := (.object "java/util/List"), accessFlags := 18, slot := 8, constantValue := 0 }, { name := "edgeColumns", type := (.object "java/util/List"), accessFlags := 18, slot := 9, constantValue := 0 }]
  methods := #[k10m0, k10m1, k10m2, k10m3, k10m4, k10m5]
  instanceTypes := #[(.object "kombos/graph/IdIndex"), (.object "kombos/graph/KeyIndex"), .boolean, .int, (.array .int), (.array .int), (.array .long), .boolean, (.object "java/util/List"), (.object "java/util/List")]
  staticTypes := #[]
  resolved := ((((((((Array.replicate 179 none).setIfInBounds 8 (some (.cls 2))).setIfInBounds 7 (some (.field 2 6))).setIfInBounds 16 (some (.field 2 13))).setIfInBounds 21 (some (.field 2 4))).setIfInBounds 26 (some (.field 2 12))).setIfInBounds 42 (some (.field 2 11))).setIfInBounds 46 (some (.field 2 14))).setIfInBounds 51 (some (.field 2 15))
  statics := none }

def pool11 : Array CpInfo := pool [(1, .methodref 2 3), (0, .class_ 4), (0, .nameAndType 5 6), (0, u "java/lang/Object"), (0, u "<init>"), (0, u "()V"), (0, .fieldref 8 9), (0, .class_ 10), (0, .nameAndType 11 12), (0, u "kombos/query/SimpleGraph"), (0, u "edgeStart"), (0, u "[I"), (0, .fieldref 8 14), (0, .nameAndType 15 12), (0, u "neighbour"), (0, .fieldref 8 17), (0, .nameAndType 18 12), (0, u "edgeWeight"), (0, .fieldref 8 20), (0, .nameAndType 21 12), (0, u "vertexWeight"), (0, .fieldref 8 23), (0, .nameAndType 24 25), (0, u "totalWeight"), (0, u "J"), (0, .fieldref 8 27), (0, .nameAndType 28 29), (0, u "maxVertexWeight"), (0, u "I"), (0, .methodref 31 32), (0, .class_ 33), (0, .nameAndType 34 35), (0, u "kombos/graph/Graph"), (0, u "vertexCount"), (0, u "()I"), (0, .methodref 31 37), (0, .nameAndType 38 39), (0, u "isDirected"), (0, u "()Z"), (4, .methodref 45 46), (0, .class_ 47), (0, .nameAndType 48 49), (0, u "java/util/Arrays"), (0, u "fill"), (0, u "([II)V"), (0, .methodref 31 51), (0, .nameAndType 52 53), (0, u "firstEdge"), (0, u "(I)I"), (0, .methodref 31 55), (0, .nameAndType 56 53), (0, u "endEdge"), (0, .methodref 31 58), (0, .nameAndType 59 53), (0, u "target"), (0, .methodref 8 61), (0, .nameAndType 62 63), (0, u "note"), (0, u "(II[I[I[I)I"), (2, .long 2147483647), (1, .methodref 69 70), (0, .class_ 71), (0, .nameAndType 72 73), (0, u "java/lang/Math"), (0, u "min"), (0, u "(JJ)J"), (2, .long 2147483639), (8, .methodref 45 86), (0, .nameAndType 87 88), (0, u "copyOf"), (0, u "([II)[I"), (0, .methodref 8 90), (0, .nameAndType 5 91), (0, u "([I[I[I[IJI)V"), (7, u "under"), (0, u "(Lkombos/graph/Graph;)Lkombos/query/SimpleGraph;")] 11

def k11c0 : Code := { maxStack := 3, maxLocals := 8, code := prog_118_method_1_code, exceptionTable := #[], attributes := #[] }
def k11m0 : Method := { name := "<init>", desc := "([I[I[I[IJI)V", sig := { parameters := [(.array .int), (.array .int), (.array .int), (.array .int), .long, .int], returnType := none }, accessFlags := 2, code := some k11c0 }
def k11c1 : Code := { maxStack := 9, maxLocals := 13, code := prog_118_method_2_code, exceptionTable := #[], attributes := #[] }
def k11m1 : Method := { name := "under", desc := "(Lkombos/graph/Graph;)Lkombos/query/SimpleGraph;", sig := { parameters := [(.object "kombos/graph/Graph")], returnType := some (.object "kombos/query/SimpleGraph") }, accessFlags := 8, code := some k11c1 }
def k11c2 : Code := { maxStack := 6, maxLocals := 5, code := prog_118_method_3_code, exceptionTable := #[], attributes := #[] }
def k11m2 : Method := { name := "note", desc := "(II[I[I[I)I", sig := { parameters := [.int, .int, (.array .int), (.array .int), (.array .int)], returnType := some .int }, accessFlags := 10, code := some k11c2 }
/-- kombos/query/SimpleGraph -/
def k11 : Class := { plain "kombos/query/SimpleGraph" (some 0) with
  accessFlags := 48
  interfaces := #[]
  cf := some (fileOf pool11 8 #[] #[{ accessFlags := 2, nameIndex := 5, descriptorIndex := 91, attributes := #[] }, { accessFlags := 8, nameIndex := 99, descriptorIndex := 100, attributes := #[] }, { accessFlags := 10, nameIndex := 62, descriptorIndex := 63, attributes := #[] }] 48 2 #[] #[{ accessFlags := 16, nameIndex := 11, descriptorIndex := 12, attributes := #[] }, { accessFlags := 16, nameIndex := 15, descriptorIndex := 12, attributes := #[] }, { accessFlags := 16, nameIndex := 18, descriptorIndex := 12, attributes := #[] }, { accessFlags := 16, nameIndex := 21, descriptorIndex := 12, attributes := #[] }, { accessFlags := 18, nameIndex := 24, descriptorIndex := 25, attributes := #[] }, { accessFlags := 18, nameIndex := 28, descriptorIndex := 29, attributes := #[] }])
  fields := #[{ name := "edgeStart", type := (.array .int), accessFlags := 16, slot := 0, constantValue := 0 }, { name := "neighbour", type := (.array .int), accessFlags := 16, slot := 1, constantValue := 0 }, { name := "edgeWeight", type := (.array .int), accessFlags := 16, slot := 2, constantValue := 0 }, { name := "vertexWeight", type := (.array .int), accessFlags := 16, slot := 3, constantValue := 0 }, { name := "totalWeight", type := .long, accessFlags := 18, slot := 4, constantValue := 0 }, { name := "maxVertexWeight", type := .int, accessFlags := 18, slot := 5, constantValue := 0 }]
  methods := #[k11m0, k11m1, k11m2]
  instanceTypes := #[(.array .int), (.array .int), (.array .int), (.array .int), .long, .int]
  staticTypes := #[]
  resolved := Array.replicate 112 none
  statics := none }

def pool12 : Array CpInfo := pool [(2, .class_ 4), (1, u "java/lang/Object"), (0, u "<init>"), (0, u "()V"), (7, .class_ 16), (1, u "java/util/Arrays"), (57, .class_ 76), (1, u "java/util/Arrays$NaturalOrder"), (36, .class_ 115), (1, u "java/util/Arrays$LegacyMergeSort"), (1, u "Z"), (32, .methodref 151 152), (0, .class_ 153), (0, .nameAndType 154 155), (0, u "java/lang/System"), (0, u "arraycopy"), (0, u "(Ljava/lang/Object;ILjava/lang/Object;II)V"), (146, u "copyOf"), (1, .methodref 305 306), (0, .class_ 307), (0, .nameAndType 308 309), (0, u "java/lang/Math"), (0, u "min"), (0, u "(II)I"), (65, .class_ 376), (0, u "java/util/Arrays$ArrayList"), (68, u "$assertionsDisabled"), (269, u "MIN_ARRAY_SORT_GRAN"), (0, u "I"), (2, u "INSERTIONSORT_THRESHOLD"), (120, u "fill"), (4, u "([II)V"), (25, u "([II)[I"), (103, .class_ 976), (0, u "java/util/Arrays$ArrayItr")] 52

def k12m0 : Method := { name := "<init>", desc := "()V", sig := { parameters := [], returnType := none }, accessFlags := 2, code := none }
def k12c1 : Code := { maxStack := 3, maxLocals := 4, code := jdk_65_method_103_code, exceptionTable := #[], attributes := #[] }
def k12m1 : Method := { name := "fill", desc := "([II)V", sig := { parameters := [(.array .int), .int], returnType := none }, accessFlags := 9, code := some k12c1 }
def k12c2 : Code := { maxStack := 6, maxLocals := 3, code := jdk_65_method_123_code, exceptionTable := #[], attributes := #[] }
def k12m2 : Method := { name := "copyOf", desc := "([II)[I", sig := { parameters := [(.array .int), .int], returnType := some (.array .int) }, accessFlags := 9, code := some k12c2 }
/-- java/util/Arrays -/
def k12 : Class := { plain "java/util/Arrays" (some 0) with
  accessFlags := 49
  interfaces := #[]
  cf := some (fileOf pool12 14 #[.nestMembers #[975, 375, 113, 74]] #[{ accessFlags := 2, nameIndex := 5, descriptorIndex := 6, attributes := #[] }, { accessFlags := 9, nameIndex := 840, descriptorIndex := 845, attributes := #[] }, { accessFlags := 9, nameIndex := 302, descriptorIndex := 871, attributes := #[] }] 49 2 #[] #[{ accessFlags := 26, nameIndex := 715, descriptorIndex := 716, attributes := #[] }, { accessFlags := 26, nameIndex := 719, descriptorIndex := 716, attributes := #[] }, { accessFlags := 4120, nameIndex := 445, descriptorIndex := 117, attributes := #[] }])
  fields := #[{ name := "MIN_ARRAY_SORT_GRAN", type := .int, accessFlags := 26, slot := 0, constantValue := 0 }, { name := "INSERTIONSORT_THRESHOLD", type := .int, accessFlags := 26, slot := 1, constantValue := 0 }, { name := "$assertionsDisabled", type := .boolean, accessFlags := 4120, slot := 2, constantValue := 0 }]
  methods := #[k12m0, k12m1, k12m2]
  instanceTypes := #[]
  staticTypes := #[.int, .int, .boolean]
  resolved := Array.replicate 1029 none
  statics := none }

def pool13 : Array CpInfo := pool [(1, .class_ 2), (0, u "java/lang/Math"), (1, .class_ 6), (1, u "java/lang/Object"), (0, u "<init>"), (0, u "()V"), (89, .class_ 100), (1, u "java/lang/Math$RandomNumberGeneratorHolder"), (20, u "(JJ)J"), (50, u "negativeZeroFloatBits"), (0, u "J"), (2, u "negativeZeroDoubleBits"), (24, u "min"), (43, u "$assertionsDisabled"), (0, u "Z"), (88, u "(II)I"), (2, u "twoToTheDoubleScaleDown"), (0, u "D"), (4, u "twoToTheDoubleScaleUp"), (9, u "E"), (3, u "PI"), (2, u "TAU"), (2, u "DEGREES_TO_RADIANS"), (0, u "RADIANS_TO_DEGREES")] 94

def k13m0 : Method := { name := "<init>", desc := "()V", sig := { parameters := [], returnType := none }, accessFlags := 2, code := none }
def k13c1 : Code := { maxStack := 2, maxLocals := 2, code := jdk_29_method_69_code, exceptionTable := #[], attributes := #[] }
def k13m1 : Method := { name := "min", desc := "(II)I", sig := { parameters := [.int, .int], returnType := some .int }, accessFlags := 9, code := some k13c1 }
def k13c2 : Code := { maxStack := 4, maxLocals := 4, code := jdk_29_method_70_code, exceptionTable := #[], attributes := #[] }
def k13m2 : Method := { name := "min", desc := "(JJ)J", sig := { parameters := [.long, .long], returnType := some .long }, accessFlags := 9, code := some k13c2 }
/-- java/lang/Math -/
def k13 : Class := { plain "java/lang/Math" (some 0) with
  accessFlags := 49
  interfaces := #[]
  cf := some (fileOf pool13 1 #[.nestMembers #[98]] #[{ accessFlags := 2, nameIndex := 7, descriptorIndex := 8, attributes := #[] }, { accessFlags := 9, nameIndex := 201, descriptorIndex := 335, attributes := #[] }, { accessFlags := 9, nameIndex := 201, descriptorIndex := 121, attributes := #[] }] 49 4 #[] #[{ accessFlags := 25, nameIndex := 354, descriptorIndex := 339, attributes := #[] }, { accessFlags := 25, nameIndex := 358, descriptorIndex := 339, attributes := #[] }, { accessFlags := 25, nameIndex := 361, descriptorIndex := 339, attributes := #[] }, { accessFlags := 26, nameIndex := 364, descriptorIndex := 339, attributes := #[] }, { accessFlags := 26, nameIndex := 365, descriptorIndex := 339, attributes := #[] }, { accessFlags := 26, nameIndex := 172, descriptorIndex := 173, attributes := #[] }, { accessFlags := 26, nameIndex := 176, descriptorIndex := 173, attributes := #[] }, { accessFlags := 8, nameIndex := 344, descriptorIndex := 339, attributes := #[] }, { accessFlags := 8, nameIndex := 338, descriptorIndex := 339, attributes := #[] }, { accessFlags := 4120, nameIndex := 245, descriptorIndex := 246, attributes := #[] }])
  fields := #[{ name := "E", type := .double, accessFlags := 25, slot := 0, constantValue := 0 }, { name := "PI", type := .double, accessFlags := 25, slot := 1, constantValue := 0 }, { name := "TAU", type := .double, accessFlags := 25, slot := 2, constantValue := 0 }, { name := "DEGREES_TO_RADIANS", type := .double, accessFlags := 26, slot := 3, constantValue := 0 }, { name := "RADIANS_TO_DEGREES", type := .double, accessFlags := 26, slot := 4, constantValue := 0 }, { name := "negativeZeroFloatBits", type := .long, accessFlags := 26, slot := 5, constantValue := 0 }, { name := "negativeZeroDoubleBits", type := .long, accessFlags := 26, slot := 6, constantValue := 0 }, { name := "twoToTheDoubleScaleUp", type := .double, accessFlags := 8, slot := 7, constantValue := 0 }, { name := "twoToTheDoubleScaleDown", type := .double, accessFlags := 8, slot := 8, constantValue := 0 }, { name := "$assertionsDisabled", type := .boolean, accessFlags := 4120, slot := 9, constantValue := 0 }]
  methods := #[k13m0, k13m1, k13m2]
  instanceTypes := #[]
  staticTypes := #[.double, .double, .double, .double, .double, .long, .long, .double, .double, .boolean]
  resolved := Array.replicate 460 none
  statics := none }

def pool14 : Array CpInfo := pool [(1, .methodref 2 3), (0, .class_ 4), (0, .nameAndType 5 6), (0, u "java/lang/Object"), (0, u "<init>"), (0, u "()V"), (0, .fieldref 8 9), (0, .class_ 10), (0, .nameAndType 11 12), (0, u "kombos/query/CellRefinement"), (0, u "size"), (0, u "[I"), (0, .fieldref 8 14), (0, .nameAndType 15 16), (0, u "mostPerCell"), (0, u "I"), (0, .fieldref 8 18), (0, .nameAndType 19 12), (0, u "edgesTo"), (0, .fieldref 8 21), (0, .nameAndType 22 12), (0, u "freed"), (0, .fieldref 8 24), (0, .nameAndType 25 12), (0, u "touched"), (0, .fieldref 8 27), (0, .nameAndType 28 29), (0, u "graph"), (0, u "Lkombos/query/SimpleGraph;"), (0, .fieldref 31 32), (0, .class_ 33), (0, .nameAndType 34 12), (0, u "kombos/query/SimpleGraph"), (0, u "vertexWeight"), (0, .fieldref 8 36), (0, .nameAndType 37 12), (0, u "cellOf"), (0, .fieldref 8 39), (0, .nameAndType 40 12), (0, u "degree"), (0, .fieldref 8 42), (0, .nameAndType 43 12), (0, u "outside"), (0, .fieldref 8 45), (0, .nameAndType 46 47), (0, u "boundary"), (0, u "[J"), (0, .fieldref 8 49), (0, .nameAndType 50 47), (0, u "quiet"), (0, .fieldref 31 52), (0, .nameAndType 53 12), (0, u "edgeStart"), (0, .fieldref 31 55), (0, .nameAndType 56 12), (0, u "neighbour"), (0, .fieldref 31 58), (0, .nameAndType 59 12), (0, u "edgeWeight"), (0, .long 2), (26, .class_ 89), (1, u "kombos/query/CellRefinement$Rule"), (20, u "()I"), (23, .class_ 135), (0, u "kombos/query/CellRefinement$Paths"), (13, u "(II)V"), (2, u "roomless"), (0, u "Z"), (6, u "touchedCount"), (2, u "exposed"), (3, u "PASSES"), (4, u "start"), (0, u "(Lkombos/query/SimpleGraph;[I)V"), (4, u "cutWeight")] 12

def k14c0 : Code := { maxStack := 2, maxLocals := 3, code := prog_81_method_1_code, exceptionTable := #[], attributes := #[] }
def k14m0 : Method := { name := "<init>", desc := "(II)V", sig := { parameters := [.int, .int], returnType := none }, accessFlags := 0, code := some k14c0 }
def k14c1 : Code := { maxStack := 7, maxLocals := 11, code := prog_81_method_2_code, exceptionTable := #[], attributes := #[] }
def k14m1 : Method := { name := "start", desc := "(Lkombos/query/SimpleGraph;[I)V", sig := { parameters := [(.object "kombos/query/SimpleGraph"), (.array .int)], returnType := none }, accessFlags := 0, code := some k14c1 }
def k14c2 : Code := { maxStack := 4, maxLocals := 7, code := prog_81_method_4_code, exceptionTable := #[], attributes := #[] }
def k14m2 : Method := { name := "cutWeight", desc := "()I", sig := { parameters := [], returnType := some .int }, accessFlags := 0, code := some k14c2 }
/-- kombos/query/CellRefinement -/
def k14 : Class := { plain "kombos/query/CellRefinement" (some 0) with
  accessFlags := 48
  interfaces := #[]
  cf := some (fileOf pool14 8 #[.nestMembers #[134, 87]] #[{ accessFlags := 0, nameIndex := 5, descriptorIndex := 149, attributes := #[] }, { accessFlags := 0, nameIndex := 172, descriptorIndex := 173, attributes := #[] }, { accessFlags := 0, nameIndex := 178, descriptorIndex := 110, attributes := #[] }] 48 2 #[] #[{ accessFlags := 26, nameIndex := 167, descriptorIndex := 16, attributes := #[] }, { accessFlags := 18, nameIndex := 11, descriptorIndex := 12, attributes := #[] }, { accessFlags := 18, nameIndex := 15, descriptorIndex := 16, attributes := #[] }, { accessFlags := 18, nameIndex := 19, descriptorIndex := 12, attributes := #[] }, { accessFlags := 18, nameIndex := 22, descriptorIndex := 12, attributes := #[] }, { accessFlags := 18, nameIndex := 25, descriptorIndex := 12, attributes := #[] }, { accessFlags := 2, nameIndex := 160, descriptorIndex := 16, attributes := #[] }, { accessFlags := 2, nameIndex := 163, descriptorIndex := 16, attributes := #[] }, { accessFlags := 2, nameIndex := 28, descriptorIndex := 29, attributes := #[] }, { accessFlags := 2, nameIndex := 37, descriptorIndex := 12, attributes := #[] }, { accessFlags := 2, nameIndex := 40, descriptorIndex := 12, attributes := #[] }, { accessFlags := 2, nameIndex := 43, descriptorIndex := 12, attributes := #[] }, { accessFlags := 2, nameIndex := 46, descriptorIndex := 47, attributes := #[] }, { accessFlags := 2, nameIndex := 50, descriptorIndex := 47, attributes := #[] }, { accessFlags := 2, nameIndex := 152, descriptorIndex := 153, attributes := #[] }])
  fields := #[{ name := "PASSES", type := .int, accessFlags := 26, slot := 0, constantValue := 0 }, { name := "size", type := (.array .int), accessFlags := 18, slot := 0, constantValue := 0 }, { name := "mostPerCell", type := .int, accessFlags := 18, slot := 1, constantValue := 0 }, { name := "edgesTo", type := (.array .int), accessFlags := 18, slot := 2, constantValue := 0 }, { name := "freed", type := (.array .int), accessFlags := 18, slot := 3, constantValue := 0 }, { name := "touched", type := (.array .int), accessFlags := 18, slot := 4, constantValue := 0 }, { name := "touchedCount", type := .int, accessFlags := 2, slot := 5, constantValue := 0 }, { name := "exposed", type := .int, accessFlags := 2, slot := 6, constantValue := 0 }, { name := "graph", type := (.object "kombos/query/SimpleGraph"), accessFlags := 2, slot := 7, constantValue := 0 }, { name := "cellOf", type := (.array .int), accessFlags := 2, slot := 8, constantValue := 0 }, { name := "degree", type := (.array .int), accessFlags := 2, slot := 9, constantValue := 0 }, { name := "outside", type := (.array .int), accessFlags := 2, slot := 10, constantValue := 0 }, { name := "boundary", type := (.array .long), accessFlags := 2, slot := 11, constantValue := 0 }, { name := "quiet", type := (.array .long), accessFlags := 2, slot := 12, constantValue := 0 }, { name := "roomless", type := .boolean, accessFlags := 2, slot := 13, constantValue := 0 }]
  methods := #[k14m0, k14m1, k14m2]
  instanceTypes := #[(.array .int), .int, (.array .int), (.array .int), (.array .int), .int, .int, (.object "kombos/query/SimpleGraph"), (.array .int), (.array .int), (.array .int), (.array .long), (.array .long), .boolean]
  staticTypes := #[.int]
  resolved := Array.replicate 191 none
  statics := none }

def pool15 : Array CpInfo := pool [(2, .class_ 4), (1, u "java/lang/Object"), (0, u "<init>"), (0, u "()V"), (1, .class_ 10), (1, u "java/util/AbstractCollection"), (66, .class_ 78), (0, u "java/util/Collection")] 81

def k15m0 : Method := { name := "<init>", desc := "()V", sig := { parameters := [], returnType := none }, accessFlags := 4, code := none }
/-- java/util/AbstractCollection -/
def k15 : Class := { plain "java/util/AbstractCollection" (some 0) with
  accessFlags := 1057
  interfaces := #[4]
  cf := some (fileOf pool15 8 #[] #[{ accessFlags := 4, nameIndex := 5, descriptorIndex := 6, attributes := #[] }] 1057 2 #[77] #[])
  fields := #[]
  methods := #[k15m0]
  instanceTypes := #[]
  staticTypes := #[]
  resolved := Array.replicate 160 none
  statics := none }

def pool16 : Array CpInfo := pool [(2, .class_ 4), (1, u "java/util/AbstractCollection"), (0, u "<init>"), (0, u "()V"), (1, .class_ 10), (1, u "java/util/ImmutableCollections"), (2, .class_ 14), (0, u "java/util/ImmutableCollections$AbstractImmutableCollection")] 41

def k16m0 : Method := { name := "<init>", desc := "()V", sig := { parameters := [], returnType := none }, accessFlags := 0, code := none }
/-- java/util/ImmutableCollections$AbstractImmutableCollection -/
def k16 : Class := { plain "java/util/ImmutableCollections$AbstractImmutableCollection" (some 15) with
  accessFlags := 1056
  interfaces := #[]
  cf := some (fileOf pool16 13 #[.nestHost 8] #[{ accessFlags := 0, nameIndex := 5, descriptorIndex := 6, attributes := #[] }] 1056 2 #[] #[])
  fields := #[]
  methods := #[k16m0]
  instanceTypes := #[]
  staticTypes := #[]
  resolved := Array.replicate 56 none
  statics := none }

def pool17 : Array CpInfo := pool [(1, .class_ 2), (0, u "java/util/RandomAccess"), (0, .class_ 4), (0, u "java/lang/Object")] 2

/-- java/util/RandomAccess -/
def k17 : Class := { plain "java/util/RandomAccess" (some 0) with
  accessFlags := 1537
  interfaces := #[]
  cf := some (fileOf pool17 1 #[] #[] 1537 3 #[] #[])
  fields := #[]
  methods := #[]
  instanceTypes := #[]
  staticTypes := #[]
  resolved := Array.replicate 7 none
  statics := none }

def pool18 : Array CpInfo := pool [(2, .class_ 4), (1, u "java/util/ImmutableCollections$AbstractImmutableCollection"), (0, u "<init>"), (0, u "()V"), (1, .class_ 10), (1, u "java/util/ImmutableCollections"), (3, .class_ 16), (1, u "java/util/ImmutableCollections$AbstractImmutableList"), (60, .class_ 78), (0, u "java/util/List"), (45, .class_ 125), (0, u "java/util/RandomAccess")] 70

def k18m0 : Method := { name := "<init>", desc := "()V", sig := { parameters := [], returnType := none }, accessFlags := 0, code := none }
/-- java/util/ImmutableCollections$AbstractImmutableList -/
def k18 : Class := { plain "java/util/ImmutableCollections$AbstractImmutableList" (some 16) with
  accessFlags := 1056
  interfaces := #[6, 17]
  cf := some (fileOf pool18 14 #[.nestHost 8] #[{ accessFlags := 0, nameIndex := 5, descriptorIndex := 6, attributes := #[] }] 1056 2 #[77, 124] #[])
  fields := #[]
  methods := #[k18m0]
  instanceTypes := #[]
  staticTypes := #[]
  resolved := Array.replicate 196 none
  statics := none }

def pool19 : Array CpInfo := pool [(1, .class_ 2), (0, u "java/io/Serializable"), (0, .class_ 4), (0, u "java/lang/Object")] 2

/-- java/io/Serializable -/
def k19 : Class := { plain "java/io/Serializable" (some 0) with
  accessFlags := 1537
  interfaces := #[]
  cf := some (fileOf pool19 1 #[] #[] 1537 3 #[] #[])
  fields := #[]
  methods := #[]
  instanceTypes := #[]
  staticTypes := #[]
  resolved := Array.replicate 7 none
  statics := none }

def pool20 : Array CpInfo := pool [(2, .class_ 4), (1, u "java/util/ImmutableCollections$AbstractImmutableList"), (3, .class_ 10), (1, u "java/util/ImmutableCollections$ListN"), (0, u "elements"), (0, u "[Ljava/lang/Object;"), (2, u "allowNulls"), (0, u "Z"), (42, .class_ 60), (0, u "java/io/Serializable"), (53, .class_ 115), (0, u "java/util/ImmutableCollections")] 3

/-- java/util/ImmutableCollections$ListN -/
def k20 : Class := { plain "java/util/ImmutableCollections$ListN" (some 18) with
  accessFlags := 48
  interfaces := #[19]
  cf := some (fileOf pool20 8 #[.nestHost 114] #[] 48 2 #[59] #[{ accessFlags := 18, nameIndex := 11, descriptorIndex := 12, attributes := #[] }, { accessFlags := 18, nameIndex := 15, descriptorIndex := 16, attributes := #[] }])
  fields := #[{ name := "elements", type := (.array (.object "java/lang/Object")), accessFlags := 18, slot := 0, constantValue := 0 }, { name := "allowNulls", type := .boolean, accessFlags := 18, slot := 1, constantValue := 0 }]
  methods := #[]
  instanceTypes := #[(.array (.object "java/lang/Object")), .boolean]
  staticTypes := #[]
  resolved := Array.replicate 119 none
  statics := none }

def pool21 : Array CpInfo := pool [(1, u "java/lang/Cloneable"), (0, .class_ 1), (0, u "java/lang/Object"), (0, .class_ 3)] 3

/-- java/lang/Cloneable -/
def k21 : Class := { plain "java/lang/Cloneable" (some 0) with
  accessFlags := 1537
  interfaces := #[]
  cf := some (fileOf pool21 2 #[] #[] 1537 4 #[] #[])
  fields := #[]
  methods := #[]
  instanceTypes := #[]
  staticTypes := #[]
  resolved := Array.replicate 8 none
  statics := none }

/-- the primitive byte -/
def k22 : Class := { plain "byte" none with kind := .primitive 'B', accessFlags := 0x411 }
/-- [B -/
def k23 : Class := { plain "[B" (some 0) with kind := .array 22 .byte, interfaces := #[21, 19], accessFlags := 1041 }

/-- the primitive int -/
def k24 : Class := { plain "int" none with kind := .primitive 'I', accessFlags := 0x411 }
/-- [I -/
def k25 : Class := { plain "[I" (some 0) with kind := .array 24 .int, interfaces := #[21, 19], accessFlags := 1041 }

/-- the primitive long -/
def k26 : Class := { plain "long" none with kind := .primitive 'J', accessFlags := 0x411 }
/-- [J -/
def k27 : Class := { plain "[J" (some 0) with kind := .array 26 .long, interfaces := #[21, 19], accessFlags := 1041 }

/-- [Ljava/lang/Object; -/
def k28 : Class := { plain "[Ljava/lang/Object;" (some 0) with kind := .array 0 (.object "java/lang/Object"), interfaces := #[21, 19], accessFlags := 1041 }

def heap : Heap := #[{ cls := 7, slots := #[.long 0, .int 0, .null, .null, .ref 2, .null, .null, .null, .int 0, .int 0], vm := .statics 7 },
  { cls := 28, slots := #[], vm := .none },
  { cls := 20, slots := #[.ref 1, .int 0], vm := .none }]
def k29 : Class := { plain "[[I" (some 0) with kind := .array 25 (.array .int), interfaces := #[21, 19], accessFlags := 1041 }
def classes : Array Class := #[k0, k1, k2, k3, k4, k5, k6, k7, k8, k9, k10, k11, k12, k13, k14, k15, k16, k17, k18, k19, k20, k21, k22, k23, k24, k25, k26, k27, k28, k29]
def interned : List (Array UInt16 × Addr) := []
def slotsUsed : Nat := 12
def theMethod : MethodId := ⟨1, 1⟩
def args0 : Array Value := #[.int 10, .int 17, .int 24]
def aboutOver (below : List Frame) : State where
  vm := { classes := classes, interned := interned.toArray }
  heap := heap
  slotsUsed := slotsUsed
  threads := #[{ frames := .invoking theMethod args0 :: below }]
def below0 : List Frame := [.native { method := ⟨0, 0⟩, args := #[] }]
def about1 : State := aboutOver below0
def p0 : Program := .bare "" "" ""
def e0 : Env := launch0.env 0 0 0
theorem w_frames : about1.frames = Frame.invoking theMethod args0 :: below0 := rfl
set_option maxRecDepth 65536 in
theorem w_args : argsFit about1.vm theMethod args0 = true := by decide +kernel
set_option maxRecDepth 65536 in
theorem w_heap : heapFits about1 = true := by decide +kernel
set_option maxRecDepth 65536 in
theorem w_runnable : about1.curStatus? = some .runnable := by decide +kernel
set_option maxRecDepth 65536 in
theorem w_alone : about1.alone = true := by decide +kernel
set_option maxRecDepth 65536 in
theorem w_named : about1.methodNamed? x = some theMethod := by decide +kernel
set_option maxRecDepth 65536 in
theorem w_hears : about1.hears theMethod below0 = true := by decide +kernel
set_option maxRecDepth 65536 in
theorem w_ripe : about1.ripe theMethod args0 below0 = true := by decide +kernel
theorem w_running : about1.status = .running := rfl
set_option maxRecDepth 65536 in
theorem w_room : about1.hasRoom e0.platform room_1 = true :=
  launch0.hasRoom_least _ room_1 (by decide +kernel) (by decide +kernel) (by decide +kernel) (by decide +kernel) (by decide +kernel) (by decide +kernel)
theorem allAtoms_all (ts : List Jvm.Cond) (a : Array Jvm.Value) (st : Jvm.State) : (allAtoms ts).before a st = ts.all (fun c => c.before a st) := by
  induction ts with
  | nil => rfl
  | cons c t ih =>
    show (Jvm.Cond.and c (allAtoms t)).before a st = _
    rw [Jvm.Cond.before_and, ih, List.all_cons]
def words1 : List Jvm.Cond := Jvm.Cond.code x code maxLocals ret :: tables_1
/-- a 'code' word, met by the world's own term for the bytes: nothing is compared byte by byte -/
theorem code_word {y : MethodName} {bytes : ByteArray} {mx : Nat} {rt : Option FieldType} {a : Array Value} {s : State} {m : MethodId} {meth : Method} {c : Code} (h1 : s.methodNamed? y = some m) (h2 : s.vm.method? m = some meth) (h3 : meth.code = some c) (h4 : c.code = bytes)
    (h5 : (c.maxLocals == mx && c.exceptionTable.isEmpty && decide (c.maxStack ≤ mostOperands) && decide (meth.sig.returnType = rt) && !meth.locks && decide (parseMethodDescriptor y.desc = some meth.sig)) = true) : (Jvm.Cond.code y bytes mx rt).before a s = true := by
  simp only [Bool.and_eq_true, beq_iff_eq, Bool.not_eq_true', decide_eq_true_eq] at h5
  obtain ⟨⟨⟨⟨⟨g1, g2⟩, g3⟩, g4⟩, g5⟩, g6⟩ := h5
  simp [Cond.before, Cond.holds, Cond.value, h1, h2, h3, h4, g1, g2, g3, g4, g5, g6]
def isCode : Jvm.Cond → Bool
  | .code _ _ _ _ => true
  | _ => false
theorem all_split {L : List Jvm.Cond} {P : Jvm.Cond → Bool} (h1 : L.all (fun c => isCode c || P c) = true) (h2 : ∀ c ∈ L.filter isCode, P c = true) : L.all P = true := by
  refine List.all_eq_true.mpr fun c hc => ?_
  have h := List.all_eq_true.mp h1 c hc
  rcases Bool.eq_false_or_eq_true (isCode c) with hi | hi
  · exact h2 c (List.mem_filter.mpr ⟨hc, hi⟩)
  · simpa [hi] using h
set_option maxRecDepth 65536 in
theorem w_c0 : (Jvm.Cond.code x code maxLocals ret).before args0 about1 = true := code_word (m := ⟨1, 1⟩) (meth := k1m1) (c := k1c1) (by decide +kernel) rfl rfl rfl (by decide +kernel)
set_option maxRecDepth 65536 in
theorem w_c1 : (Jvm.Cond.code ({ cls := "kombos/graph/Graph$Builder", name := "<init>", desc := "(Z)V" } : Jvm.MethodName) prog_45_method_1_code (2 : Nat) (Option.none : Option Jvm.ClassFile.FieldType)).before args0 about1 = true := code_word (m := ⟨2, 0⟩) (meth := k2m0) (c := k2c0) (by decide +kernel) rfl rfl rfl (by decide +kernel)
set_option maxRecDepth 65536 in
theorem w_c2 : (Jvm.Cond.code ({ cls := "kombos/graph/Graph$Builder", name := "<init>", desc := "(ZII)V" } : Jvm.MethodName) prog_45_method_2_code (4 : Nat) (Option.none : Option Jvm.ClassFile.FieldType)).before args0 about1 = true := code_word (m := ⟨2, 1⟩) (meth := k2m1) (c := k2c1) (by decide +kernel) rfl rfl rfl (by decide +kernel)
set_option maxRecDepth 65536 in
theorem w_c3 : (Jvm.Cond.code ({ cls := "java/lang/Object", name := "<init>", desc := "()V" } : Jvm.MethodName) object_method_1_code (1 : Nat) (Option.none : Option Jvm.ClassFile.FieldType)).before args0 about1 = true := code_word (m := ⟨0, 0⟩) (meth := k0m0) (c := k0c0) (by decide +kernel) rfl rfl rfl (by decide +kernel)
set_option maxRecDepth 65536 in
theorem w_c4 : (Jvm.Cond.code ({ cls := "java/util/List", name := "of", desc := "()Ljava/util/List;" } : Jvm.MethodName) jdk_40_method_36_code (0 : Nat) (Option.some (Jvm.ClassFile.FieldType.object "java/util/List"))).before args0 about1 = true := code_word (m := ⟨6, 0⟩) (meth := k6m0) (c := k6c0) (by decide +kernel) rfl rfl rfl (by decide +kernel)
set_option maxRecDepth 65536 in
theorem w_c5 : (Jvm.Cond.code ({ cls := "kombos/graph/IdIndex", name := "<init>", desc := "(I)V" } : Jvm.MethodName) prog_47_method_1_code (2 : Nat) (Option.none : Option Jvm.ClassFile.FieldType)).before args0 about1 = true := code_word (m := ⟨8, 0⟩) (meth := k8m0) (c := k8c0) (by decide +kernel) rfl rfl rfl (by decide +kernel)
set_option maxRecDepth 65536 in
theorem w_c6 : (Jvm.Cond.code ({ cls := "kombos/graph/Graph$Builder", name := "addVertex", desc := "(J)V" } : Jvm.MethodName) prog_45_method_5_code (3 : Nat) (Option.none : Option Jvm.ClassFile.FieldType)).before args0 about1 = true := code_word (m := ⟨2, 2⟩) (meth := k2m2) (c := k2c2) (by decide +kernel) rfl rfl rfl (by decide +kernel)
set_option maxRecDepth 65536 in
theorem w_c7 : (Jvm.Cond.code ({ cls := "kombos/graph/Graph$Builder", name := "vertexOf", desc := "(J)I" } : Jvm.MethodName) prog_45_method_13_code (3 : Nat) (Option.some Jvm.ClassFile.FieldType.int)).before args0 about1 = true := code_word (m := ⟨2, 4⟩) (meth := k2m4) (c := k2c4) (by decide +kernel) rfl rfl rfl (by decide +kernel)
set_option maxRecDepth 65536 in
theorem w_c8 : (Jvm.Cond.code ({ cls := "kombos/graph/IdIndex", name := "add", desc := "(J)I" } : Jvm.MethodName) prog_47_method_5_code (4 : Nat) (Option.some Jvm.ClassFile.FieldType.int)).before args0 about1 = true := code_word (m := ⟨8, 3⟩) (meth := k8m3) (c := k8c3) (by decide +kernel) rfl rfl rfl (by decide +kernel)
set_option maxRecDepth 65536 in
theorem w_c9 : (Jvm.Cond.code ({ cls := "kombos/graph/IdIndex", name := "indexOf", desc := "(J)I" } : Jvm.MethodName) prog_47_method_4_code (5 : Nat) (Option.some Jvm.ClassFile.FieldType.int)).before args0 about1 = true := code_word (m := ⟨8, 2⟩) (meth := k8m2) (c := k8c2) (by decide +kernel) rfl rfl rfl (by decide +kernel)
set_option maxRecDepth 65536 in
theorem w_c10 : (Jvm.Cond.code ({ cls := "kombos/graph/IdIndex", name := "addNew", desc := "(J)I" } : Jvm.MethodName) prog_47_method_6_code (4 : Nat) (Option.some Jvm.ClassFile.FieldType.int)).before args0 about1 = true := code_word (m := ⟨8, 4⟩) (meth := k8m4) (c := k8c4) (by decide +kernel) rfl rfl rfl (by decide +kernel)
set_option maxRecDepth 65536 in
theorem w_c11 : (Jvm.Cond.code ({ cls := "kombos/graph/IdIndex", name := "addWithoutRoom", desc := "(J)I" } : Jvm.MethodName) prog_47_method_8_code (4 : Nat) (Option.some Jvm.ClassFile.FieldType.int)).before args0 about1 = true := code_word (m := ⟨8, 5⟩) (meth := k8m5) (c := k8c5) (by decide +kernel) rfl rfl rfl (by decide +kernel)
set_option maxRecDepth 65536 in
theorem w_c12 : (Jvm.Cond.code ({ cls := "kombos/graph/Graph$Builder", name := "build", desc := "()Lkombos/graph/Graph;" } : Jvm.MethodName) prog_45_method_18_code (7 : Nat) (Option.some (Jvm.ClassFile.FieldType.object "kombos/graph/Graph"))).before args0 about1 = true := code_word (m := ⟨2, 7⟩) (meth := k2m7) (c := k2c7) (by decide +kernel) rfl rfl rfl (by decide +kernel)
set_option maxRecDepth 65536 in
theorem w_c13 : (Jvm.Cond.code ({ cls := "kombos/graph/IdIndex", name := "size", desc := "()I" } : Jvm.MethodName) prog_47_method_2_code (1 : Nat) (Option.some Jvm.ClassFile.FieldType.int)).before args0 about1 = true := code_word (m := ⟨8, 1⟩) (meth := k8m1) (c := k8c1) (by decide +kernel) rfl rfl rfl (by decide +kernel)
set_option maxRecDepth 65536 in
theorem w_c14 : (Jvm.Cond.code ({ cls := "kombos/graph/IdIndex", name := "trimToSize", desc := "()V" } : Jvm.MethodName) prog_47_method_11_code (1 : Nat) (Option.none : Option Jvm.ClassFile.FieldType)).before args0 about1 = true := code_word (m := ⟨8, 6⟩) (meth := k8m6) (c := k8c6) (by decide +kernel) rfl rfl rfl (by decide +kernel)
set_option maxRecDepth 65536 in
theorem w_c15 : (Jvm.Cond.code ({ cls := "kombos/graph/Graph", name := "<init>", desc := "(Lkombos/graph/Graph$Builder;[I[I[J)V" } : Jvm.MethodName) prog_44_method_1_code (5 : Nat) (Option.none : Option Jvm.ClassFile.FieldType)).before args0 about1 = true := code_word (m := ⟨10, 0⟩) (meth := k10m0) (c := k10c0) (by decide +kernel) rfl rfl rfl (by decide +kernel)
set_option maxRecDepth 65536 in
theorem w_c16 : (Jvm.Cond.code ({ cls := "kombos/query/SimpleGraph", name := "under", desc := "(Lkombos/graph/Graph;)Lkombos/query/SimpleGraph;" } : Jvm.MethodName) prog_118_method_2_code (13 : Nat) (Option.some (Jvm.ClassFile.FieldType.object "kombos/query/SimpleGraph"))).before args0 about1 = true := code_word (m := ⟨11, 1⟩) (meth := k11m1) (c := k11c1) (by decide +kernel) rfl rfl rfl (by decide +kernel)
set_option maxRecDepth 65536 in
theorem w_c17 : (Jvm.Cond.code ({ cls := "kombos/graph/Graph", name := "vertexCount", desc := "()I" } : Jvm.MethodName) prog_44_method_3_code (1 : Nat) (Option.some Jvm.ClassFile.FieldType.int)).before args0 about1 = true := code_word (m := ⟨10, 1⟩) (meth := k10m1) (c := k10c1) (by decide +kernel) rfl rfl rfl (by decide +kernel)
set_option maxRecDepth 65536 in
theorem w_c18 : (Jvm.Cond.code ({ cls := "kombos/graph/Graph", name := "isDirected", desc := "()Z" } : Jvm.MethodName) prog_44_method_5_code (1 : Nat) (Option.some Jvm.ClassFile.FieldType.boolean)).before args0 about1 = true := code_word (m := ⟨10, 2⟩) (meth := k10m2) (c := k10c2) (by decide +kernel) rfl rfl rfl (by decide +kernel)
set_option maxRecDepth 65536 in
theorem w_c19 : (Jvm.Cond.code ({ cls := "java/util/Arrays", name := "fill", desc := "([II)V" } : Jvm.MethodName) jdk_65_method_103_code (4 : Nat) (Option.none : Option Jvm.ClassFile.FieldType)).before args0 about1 = true := code_word (m := ⟨12, 1⟩) (meth := k12m1) (c := k12c1) (by decide +kernel) rfl rfl rfl (by decide +kernel)
set_option maxRecDepth 65536 in
theorem w_c20 : (Jvm.Cond.code ({ cls := "kombos/graph/Graph", name := "firstEdge", desc := "(I)I" } : Jvm.MethodName) prog_44_method_15_code (2 : Nat) (Option.some Jvm.ClassFile.FieldType.int)).before args0 about1 = true := code_word (m := ⟨10, 3⟩) (meth := k10m3) (c := k10c3) (by decide +kernel) rfl rfl rfl (by decide +kernel)
set_option maxRecDepth 65536 in
theorem w_c21 : (Jvm.Cond.code ({ cls := "kombos/graph/Graph", name := "endEdge", desc := "(I)I" } : Jvm.MethodName) prog_44_method_16_code (2 : Nat) (Option.some Jvm.ClassFile.FieldType.int)).before args0 about1 = true := code_word (m := ⟨10, 4⟩) (meth := k10m4) (c := k10c4) (by decide +kernel) rfl rfl rfl (by decide +kernel)
set_option maxRecDepth 65536 in
theorem w_c22 : (Jvm.Cond.code ({ cls := "java/lang/Math", name := "min", desc := "(JJ)J" } : Jvm.MethodName) jdk_29_method_70_code (4 : Nat) (Option.some Jvm.ClassFile.FieldType.long)).before args0 about1 = true := code_word (m := ⟨13, 2⟩) (meth := k13m2) (c := k13c2) (by decide +kernel) rfl rfl rfl (by decide +kernel)
set_option maxRecDepth 65536 in
theorem w_c23 : (Jvm.Cond.code ({ cls := "java/util/Arrays", name := "copyOf", desc := "([II)[I" } : Jvm.MethodName) jdk_65_method_123_code (3 : Nat) (Option.some (Jvm.ClassFile.FieldType.array Jvm.ClassFile.FieldType.int))).before args0 about1 = true := code_word (m := ⟨12, 2⟩) (meth := k12m2) (c := k12c2) (by decide +kernel) rfl rfl rfl (by decide +kernel)
set_option maxRecDepth 65536 in
theorem w_c24 : (Jvm.Cond.code ({ cls := "java/lang/Math", name := "min", desc := "(II)I" } : Jvm.MethodName) jdk_29_method_69_code (2 : Nat) (Option.some Jvm.ClassFile.FieldType.int)).before args0 about1 = true := code_word (m := ⟨13, 1⟩) (meth := k13m1) (c := k13c1) (by decide +kernel) rfl rfl rfl (by decide +kernel)
set_option maxRecDepth 65536 in
theorem w_c25 : (Jvm.Cond.code ({ cls := "kombos/query/SimpleGraph", name := "<init>", desc := "([I[I[I[IJI)V" } : Jvm.MethodName) prog_118_method_1_code (8 : Nat) (Option.none : Option Jvm.ClassFile.FieldType)).before args0 about1 = true := code_word (m := ⟨11, 0⟩) (meth := k11m0) (c := k11c0) (by decide +kernel) rfl rfl rfl (by decide +kernel)
set_option maxRecDepth 65536 in
theorem w_c26 : (Jvm.Cond.code ({ cls := "kombos/query/CellRefinement", name := "<init>", desc := "(II)V" } : Jvm.MethodName) prog_81_method_1_code (3 : Nat) (Option.none : Option Jvm.ClassFile.FieldType)).before args0 about1 = true := code_word (m := ⟨14, 0⟩) (meth := k14m0) (c := k14c0) (by decide +kernel) rfl rfl rfl (by decide +kernel)
set_option maxRecDepth 65536 in
theorem w_c27 : (Jvm.Cond.code ({ cls := "kombos/query/CellRefinement", name := "start", desc := "(Lkombos/query/SimpleGraph;[I)V" } : Jvm.MethodName) prog_81_method_2_code (11 : Nat) (Option.none : Option Jvm.ClassFile.FieldType)).before args0 about1 = true := code_word (m := ⟨14, 1⟩) (meth := k14m1) (c := k14c1) (by decide +kernel) rfl rfl rfl (by decide +kernel)
set_option maxRecDepth 65536 in
theorem w_c28 : (Jvm.Cond.code ({ cls := "kombos/query/CellRefinement", name := "cutWeight", desc := "()I" } : Jvm.MethodName) prog_81_method_4_code (7 : Nat) (Option.some Jvm.ClassFile.FieldType.int)).before args0 about1 = true := code_word (m := ⟨14, 2⟩) (meth := k14m2) (c := k14c2) (by decide +kernel) rfl rfl rfl (by decide +kernel)
set_option maxRecDepth 65536 in
theorem w_c29 : (Jvm.Cond.code ({ cls := "kombos/graph/Graph$Builder", name := "addEdge", desc := "(JJ)V" } : Jvm.MethodName) prog_45_method_8_code (6 : Nat) (Option.none : Option Jvm.ClassFile.FieldType)).before args0 about1 = true := code_word (m := ⟨2, 3⟩) (meth := k2m3) (c := k2c3) (by decide +kernel) rfl rfl rfl (by decide +kernel)
set_option maxRecDepth 65536 in
theorem w_c30 : (Jvm.Cond.code ({ cls := "kombos/graph/Graph$Builder", name := "add", desc := "(JJ)I" } : Jvm.MethodName) prog_45_method_16_code (8 : Nat) (Option.some Jvm.ClassFile.FieldType.int)).before args0 about1 = true := code_word (m := ⟨2, 5⟩) (meth := k2m5) (c := k2c5) (by decide +kernel) rfl rfl rfl (by decide +kernel)
set_option maxRecDepth 65536 in
theorem w_c31 : (Jvm.Cond.code ({ cls := "kombos/graph/Graph$Builder", name := "startBlock", desc := "(I)V" } : Jvm.MethodName) prog_45_method_17_code (2 : Nat) (Option.none : Option Jvm.ClassFile.FieldType)).before args0 about1 = true := code_word (m := ⟨2, 6⟩) (meth := k2m6) (c := k2c6) (by decide +kernel) rfl rfl rfl (by decide +kernel)
set_option maxRecDepth 65536 in
theorem w_c32 : (Jvm.Cond.code ({ cls := "kombos/graph/Graph$Builder", name := "countEnds", desc := "([II)V" } : Jvm.MethodName) prog_45_method_20_code (7 : Nat) (Option.none : Option Jvm.ClassFile.FieldType)).before args0 about1 = true := code_word (m := ⟨2, 9⟩) (meth := k2m9) (c := k2c9) (by decide +kernel) rfl rfl rfl (by decide +kernel)
set_option maxRecDepth 65536 in
theorem w_c33 : (Jvm.Cond.code ({ cls := "kombos/graph/Graph$Builder", name := "blockCount", desc := "(I)I" } : Jvm.MethodName) prog_45_method_19_code (2 : Nat) (Option.some Jvm.ClassFile.FieldType.int)).before args0 about1 = true := code_word (m := ⟨2, 8⟩) (meth := k2m8) (c := k2c8) (by decide +kernel) rfl rfl rfl (by decide +kernel)
set_option maxRecDepth 65536 in
theorem w_c34 : (Jvm.Cond.code ({ cls := "kombos/graph/Graph$Builder", name := "place", desc := "([I[I[JI)V" } : Jvm.MethodName) prog_45_method_21_code (12 : Nat) (Option.none : Option Jvm.ClassFile.FieldType)).before args0 about1 = true := code_word (m := ⟨2, 10⟩) (meth := k2m10) (c := k2c10) (by decide +kernel) rfl rfl rfl (by decide +kernel)
set_option maxRecDepth 65536 in
theorem w_c35 : (Jvm.Cond.code ({ cls := "kombos/graph/Graph", name := "target", desc := "(I)I" } : Jvm.MethodName) prog_44_method_17_code (2 : Nat) (Option.some Jvm.ClassFile.FieldType.int)).before args0 about1 = true := code_word (m := ⟨10, 5⟩) (meth := k10m5) (c := k10c5) (by decide +kernel) rfl rfl rfl (by decide +kernel)
set_option maxRecDepth 65536 in
theorem w_c36 : (Jvm.Cond.code ({ cls := "kombos/query/SimpleGraph", name := "note", desc := "(II[I[I[I)I" } : Jvm.MethodName) prog_118_method_3_code (5 : Nat) (Option.some Jvm.ClassFile.FieldType.int)).before args0 about1 = true := code_word (m := ⟨11, 2⟩) (meth := k11m2) (c := k11c2) (by decide +kernel) rfl rfl rfl (by decide +kernel)
def codes1 : List Jvm.Cond := [Jvm.Cond.code x code maxLocals ret, Jvm.Cond.code ({ cls := "kombos/graph/Graph$Builder", name := "<init>", desc := "(Z)V" } : Jvm.MethodName) prog_45_method_1_code (2 : Nat) (Option.none : Option Jvm.ClassFile.FieldType), Jvm.Cond.code ({ cls := "kombos/graph/Graph$Builder", name := "<init>", desc := "(ZII)V" } : Jvm.MethodName) prog_45_method_2_code (4 : Nat) (Option.none : Option Jvm.ClassFile.FieldType), Jvm.Cond.code ({ cls := "java/lang/Object", name := "<init>", desc := "()V" } : Jvm.MethodName) object_method_1_code (1 : Nat) (Option.none : Option Jvm.ClassFile.FieldType), Jvm.Cond.code ({ cls := "java/util/List", name := "of", desc := "()Ljava/util/List;" } : Jvm.MethodName) jdk_40_method_36_code (0 : Nat) (Option.some (Jvm.ClassFile.FieldType.object "java/util/List")), Jvm.Cond.code ({ cls := "kombos/graph/IdIndex", name := "<init>", desc := "(I)V" } : Jvm.MethodName) prog_47_method_1_code (2 : Nat) (Option.none : Option Jvm.ClassFile.FieldType), Jvm.Cond.code ({ cls := "kombos/graph/Graph$Builder", name := "addVertex", desc := "(J)V" } : Jvm.MethodName) prog_45_method_5_code (3 : Nat) (Option.none : Option Jvm.ClassFile.FieldType), Jvm.Cond.code ({ cls := "kombos/graph/Graph$Builder", name := "vertexOf", desc := "(J)I" } : Jvm.MethodName) prog_45_method_13_code (3 : Nat) (Option.some Jvm.ClassFile.FieldType.int), Jvm.Cond.code ({ cls := "kombos/graph/IdIndex", name := "add", desc := "(J)I" } : Jvm.MethodName) prog_47_method_5_code (4 : Nat) (Option.some Jvm.ClassFile.FieldType.int), Jvm.Cond.code ({ cls := "kombos/graph/IdIndex", name := "indexOf", desc := "(J)I" } : Jvm.MethodName) prog_47_method_4_code (5 : Nat) (Option.some Jvm.ClassFile.FieldType.int), Jvm.Cond.code ({ cls := "kombos/graph/IdIndex", name := "addNew", desc := "(J)I" } : Jvm.MethodName) prog_47_method_6_code (4 : Nat) (Option.some Jvm.ClassFile.FieldType.int), Jvm.Cond.code ({ cls := "kombos/graph/IdIndex", name := "addWithoutRoom", desc := "(J)I" } : Jvm.MethodName) prog_47_method_8_code (4 : Nat) (Option.some Jvm.ClassFile.FieldType.int), Jvm.Cond.code ({ cls := "kombos/graph/Graph$Builder", name := "build", desc := "()Lkombos/graph/Graph;" } : Jvm.MethodName) prog_45_method_18_code (7 : Nat) (Option.some (Jvm.ClassFile.FieldType.object "kombos/graph/Graph")), Jvm.Cond.code ({ cls := "kombos/graph/IdIndex", name := "size", desc := "()I" } : Jvm.MethodName) prog_47_method_2_code (1 : Nat) (Option.some Jvm.ClassFile.FieldType.int), Jvm.Cond.code ({ cls := "kombos/graph/IdIndex", name := "trimToSize", desc := "()V" } : Jvm.MethodName) prog_47_method_11_code (1 : Nat) (Option.none : Option Jvm.ClassFile.FieldType), Jvm.Cond.code ({ cls := "kombos/graph/Graph", name := "<init>", desc := "(Lkombos/graph/Graph$Builder;[I[I[J)V" } : Jvm.MethodName) prog_44_method_1_code (5 : Nat) (Option.none : Option Jvm.ClassFile.FieldType), Jvm.Cond.code ({ cls := "kombos/query/SimpleGraph", name := "under", desc := "(Lkombos/graph/Graph;)Lkombos/query/SimpleGraph;" } : Jvm.MethodName) prog_118_method_2_code (13 : Nat) (Option.some (Jvm.ClassFile.FieldType.object "kombos/query/SimpleGraph")), Jvm.Cond.code ({ cls := "kombos/graph/Graph", name := "vertexCount", desc := "()I" } : Jvm.MethodName) prog_44_method_3_code (1 : Nat) (Option.some Jvm.ClassFile.FieldType.int), Jvm.Cond.code ({ cls := "kombos/graph/Graph", name := "isDirected", desc := "()Z" } : Jvm.MethodName) prog_44_method_5_code (1 : Nat) (Option.some Jvm.ClassFile.FieldType.boolean), Jvm.Cond.code ({ cls := "java/util/Arrays", name := "fill", desc := "([II)V" } : Jvm.MethodName) jdk_65_method_103_code (4 : Nat) (Option.none : Option Jvm.ClassFile.FieldType), Jvm.Cond.code ({ cls := "kombos/graph/Graph", name := "firstEdge", desc := "(I)I" } : Jvm.MethodName) prog_44_method_15_code (2 : Nat) (Option.some Jvm.ClassFile.FieldType.int), Jvm.Cond.code ({ cls := "kombos/graph/Graph", name := "endEdge", desc := "(I)I" } : Jvm.MethodName) prog_44_method_16_code (2 : Nat) (Option.some Jvm.ClassFile.FieldType.int), Jvm.Cond.code ({ cls := "java/lang/Math", name := "min", desc := "(JJ)J" } : Jvm.MethodName) jdk_29_method_70_code (4 : Nat) (Option.some Jvm.ClassFile.FieldType.long), Jvm.Cond.code ({ cls := "java/util/Arrays", name := "copyOf", desc := "([II)[I" } : Jvm.MethodName) jdk_65_method_123_code (3 : Nat) (Option.some (Jvm.ClassFile.FieldType.array Jvm.ClassFile.FieldType.int)), Jvm.Cond.code ({ cls := "java/lang/Math", name := "min", desc := "(II)I" } : Jvm.MethodName) jdk_29_method_69_code (2 : Nat) (Option.some Jvm.ClassFile.FieldType.int), Jvm.Cond.code ({ cls := "kombos/query/SimpleGraph", name := "<init>", desc := "([I[I[I[IJI)V" } : Jvm.MethodName) prog_118_method_1_code (8 : Nat) (Option.none : Option Jvm.ClassFile.FieldType), Jvm.Cond.code ({ cls := "kombos/query/CellRefinement", name := "<init>", desc := "(II)V" } : Jvm.MethodName) prog_81_method_1_code (3 : Nat) (Option.none : Option Jvm.ClassFile.FieldType), Jvm.Cond.code ({ cls := "kombos/query/CellRefinement", name := "start", desc := "(Lkombos/query/SimpleGraph;[I)V" } : Jvm.MethodName) prog_81_method_2_code (11 : Nat) (Option.none : Option Jvm.ClassFile.FieldType), Jvm.Cond.code ({ cls := "kombos/query/CellRefinement", name := "cutWeight", desc := "()I" } : Jvm.MethodName) prog_81_method_4_code (7 : Nat) (Option.some Jvm.ClassFile.FieldType.int), Jvm.Cond.code ({ cls := "kombos/graph/Graph$Builder", name := "addEdge", desc := "(JJ)V" } : Jvm.MethodName) prog_45_method_8_code (6 : Nat) (Option.none : Option Jvm.ClassFile.FieldType), Jvm.Cond.code ({ cls := "kombos/graph/Graph$Builder", name := "add", desc := "(JJ)I" } : Jvm.MethodName) prog_45_method_16_code (8 : Nat) (Option.some Jvm.ClassFile.FieldType.int), Jvm.Cond.code ({ cls := "kombos/graph/Graph$Builder", name := "startBlock", desc := "(I)V" } : Jvm.MethodName) prog_45_method_17_code (2 : Nat) (Option.none : Option Jvm.ClassFile.FieldType), Jvm.Cond.code ({ cls := "kombos/graph/Graph$Builder", name := "countEnds", desc := "([II)V" } : Jvm.MethodName) prog_45_method_20_code (7 : Nat) (Option.none : Option Jvm.ClassFile.FieldType), Jvm.Cond.code ({ cls := "kombos/graph/Graph$Builder", name := "blockCount", desc := "(I)I" } : Jvm.MethodName) prog_45_method_19_code (2 : Nat) (Option.some Jvm.ClassFile.FieldType.int), Jvm.Cond.code ({ cls := "kombos/graph/Graph$Builder", name := "place", desc := "([I[I[JI)V" } : Jvm.MethodName) prog_45_method_21_code (12 : Nat) (Option.none : Option Jvm.ClassFile.FieldType), Jvm.Cond.code ({ cls := "kombos/graph/Graph", name := "target", desc := "(I)I" } : Jvm.MethodName) prog_44_method_17_code (2 : Nat) (Option.some Jvm.ClassFile.FieldType.int), Jvm.Cond.code ({ cls := "kombos/query/SimpleGraph", name := "note", desc := "(II[I[I[I)I" } : Jvm.MethodName) prog_118_method_3_code (5 : Nat) (Option.some Jvm.ClassFile.FieldType.int)]
set_option maxRecDepth 65536 in
theorem codes_eq : words1.filter isCode = codes1 := rfl
theorem w_codes : ∀ c ∈ words1.filter isCode, c.before args0 about1 = true := by
  rw [codes_eq]
  intro c hc
  simp only [codes1, List.mem_cons, List.not_mem_nil, or_false] at hc
  rcases hc with rfl | rfl | rfl | rfl | rfl | rfl | rfl | rfl | rfl | rfl | rfl | rfl | rfl | rfl | rfl | rfl | rfl | rfl | rfl | rfl | rfl | rfl | rfl | rfl | rfl | rfl | rfl | rfl | rfl | rfl | rfl | rfl | rfl | rfl | rfl | rfl | rfl
  · exact w_c0
  · exact w_c1
  · exact w_c2
  · exact w_c3
  · exact w_c4
  · exact w_c5
  · exact w_c6
  · exact w_c7
  · exact w_c8
  · exact w_c9
  · exact w_c10
  · exact w_c11
  · exact w_c12
  · exact w_c13
  · exact w_c14
  · exact w_c15
  · exact w_c16
  · exact w_c17
  · exact w_c18
  · exact w_c19
  · exact w_c20
  · exact w_c21
  · exact w_c22
  · exact w_c23
  · exact w_c24
  · exact w_c25
  · exact w_c26
  · exact w_c27
  · exact w_c28
  · exact w_c29
  · exact w_c30
  · exact w_c31
  · exact w_c32
  · exact w_c33
  · exact w_c34
  · exact w_c35
  · exact w_c36
set_option maxRecDepth 65536 in
theorem w_t1 : (words1.take 24).all (fun c => isCode c || c.before args0 about1) = true := by decide +kernel
set_option maxRecDepth 65536 in
theorem w_t2 : ((words1.drop 24).take 24).all (fun c => isCode c || c.before args0 about1) = true := by decide +kernel
set_option maxRecDepth 65536 in
theorem w_t3 : (((words1.drop 24).drop 24).take 24).all (fun c => isCode c || c.before args0 about1) = true := by decide +kernel
set_option maxRecDepth 65536 in
theorem w_t4 : ((((words1.drop 24).drop 24).drop 24).take 24).all (fun c => isCode c || c.before args0 about1) = true := by decide +kernel
set_option maxRecDepth 65536 in
theorem w_t5 : (((((words1.drop 24).drop 24).drop 24).drop 24).take 24).all (fun c => isCode c || c.before args0 about1) = true := by decide +kernel
set_option maxRecDepth 65536 in
theorem w_t6 : ((((((words1.drop 24).drop 24).drop 24).drop 24).drop 24).take 24).all (fun c => isCode c || c.before args0 about1) = true := by decide +kernel
set_option maxRecDepth 65536 in
theorem w_t7 : (((((((words1.drop 24).drop 24).drop 24).drop 24).drop 24).drop 24).take 24).all (fun c => isCode c || c.before args0 about1) = true := by decide +kernel
set_option maxRecDepth 65536 in
theorem w_t8 : ((((((((words1.drop 24).drop 24).drop 24).drop 24).drop 24).drop 24).drop 24).take 24).all (fun c => isCode c || c.before args0 about1) = true := by decide +kernel
set_option maxRecDepth 65536 in
theorem w_t9 : (((((((((words1.drop 24).drop 24).drop 24).drop 24).drop 24).drop 24).drop 24).drop 24).take 24).all (fun c => isCode c || c.before args0 about1) = true := by decide +kernel
set_option maxRecDepth 65536 in
theorem w_t10 : ((((((((((words1.drop 24).drop 24).drop 24).drop 24).drop 24).drop 24).drop 24).drop 24).drop 24).take 24).all (fun c => isCode c || c.before args0 about1) = true := by decide +kernel
set_option maxRecDepth 65536 in
theorem w_t11 : (((((((((((words1.drop 24).drop 24).drop 24).drop 24).drop 24).drop 24).drop 24).drop 24).drop 24).drop 24).take 24).all (fun c => isCode c || c.before args0 about1) = true := by decide +kernel
set_option maxRecDepth 65536 in
theorem w_t12 : (((((((((((words1.drop 24).drop 24).drop 24).drop 24).drop 24).drop 24).drop 24).drop 24).drop 24).drop 24).drop 24).all (fun c => isCode c || c.before args0 about1) = true := by decide +kernel
theorem w_tables : (allAtoms (Jvm.Cond.code x code maxLocals ret :: tables_1)).before args0 about1 = true := by
  rw [allAtoms_all]
  show words1.all (fun c => c.before args0 about1) = true
  refine all_split ?_ w_codes
  rw [← List.take_append_drop 24 words1, List.all_append, w_t1, ← List.take_append_drop 24 (words1.drop 24), List.all_append, w_t2, ← List.take_append_drop 24 ((words1.drop 24).drop 24), List.all_append, w_t3, ← List.take_append_drop 24 (((words1.drop 24).drop 24).drop 24), List.all_append, w_t4, ← List.take_append_drop 24 ((((words1.drop 24).drop 24).drop 24).drop 24), List.all_append, w_t5, ← List.take_append_drop 24 (((((words1.drop 24).drop 24).drop 24).drop 24).drop 24), List.all_append, w_t6, ← List.take_append_drop 24 ((((((words1.drop 24).drop 24).drop 24).drop 24).drop 24).drop 24), List.all_append, w_t7, ← List.take_append_drop 24 (((((((words1.drop 24).drop 24).drop 24).drop 24).drop 24).drop 24).drop 24), List.all_append, w_t8, ← List.take_append_drop 24 ((((((((words1.drop 24).drop 24).drop 24).drop 24).drop 24).drop 24).drop 24).drop 24), List.all_append, w_t9, ← List.take_append_drop 24 (((((((((words1.drop 24).drop 24).drop 24).drop 24).drop 24).drop 24).drop 24).drop 24).drop 24), List.all_append, w_t10, ← List.take_append_drop 24 ((((((((((words1.drop 24).drop 24).drop 24).drop 24).drop 24).drop 24).drop 24).drop 24).drop 24).drop 24), List.all_append, w_t11, w_t12]
  rfl
set_option maxRecDepth 65536 in
theorem w_rest : rest_1_c.before args0 about1 = true := by decide +kernel
set_option maxRecDepth 65536 in
theorem w_case : (Jvm.Cond.and given_1 narrow_1).before args0 about1 = true := by decide +kernel
theorem w_applies : (headSpec (Jvm.Cond.code x code maxLocals ret :: tables_1) room_1).applies x e0.platform about1 = true :=
  (Spec.applies_iff w_frames).mpr ⟨w_running, w_runnable, w_alone, w_named, w_hears, w_ripe, w_room, w_tables⟩
theorem atStart : AtStart classFile x code maxLocals ret World_1 tables_1 room_1 Calls_1 rest_1 Pre_1 launch0 p0 e0 about1 theMethod args0 below0 :=
  ⟨lists_1, trivial, launch0.admits_env _ _ _, launch0.least_env, fairChoices_fair.cas, fairChoices_fair.clock, w_frames, w_args, w_heap, w_applies, trivial, w_rest, w_case⟩
end start1
theorem witness_1 : WitnessClaimed_1 := ⟨start1.p0, start1.e0, start1.about1, start1.theMethod, start1.args0, start1.below0, start1.atStart⟩
end Jvm.Pilot.@@N@@
