import JvmDerived
import JvmDerived.Pilot.@@N@@Statement
import JvmDerived.Pilot.@@N@@Code
set_option linter.unusedVariables false
set_option linter.unusedSimpArgs false
namespace Jvm.Pilot.@@N@@
open Jvm Jvm.ClassFile Sem Op Lib Jvm.Free Jvm.Stand Jvm.LawKit Jvm.RoadKit Bundle Jvm.Pilot.@@N@@.Jvm.D
section OwnLayer
/-- the run from A ends, and P holds of how it ends -/
def own_Ends (tb : Tables) (e : Env) (below : List Frame) (P : Outcome → State → Prop) (A : State) : Prop :=
  ∃ s₂ o, Steps tb e below A s₂ ∧ s₂.status = .running ∧ Ended s₂ below o ∧ P o s₂
theorem own_st {tb : Tables} {e : Env} {below : List Frame} {P : Outcome → State → Prop} {A B : State} (h : ∀ t, Steps tb e below B t → Steps tb e below A t) (k : own_Ends tb e below P B) : own_Ends tb e below P A := by
  obtain ⟨s2, o, h1, h2⟩ := k
  exact ⟨s2, o, h _ h1, h2⟩
/-- where the walk stands: the state T, its heap h, k cells and n slots made, nothing below n0 written -/
def own_S (p : Program) (l : Launch) (e : Env) (R : Room) (s : State) (m : MethodId) (args : Array Value) (below : List Frame) (meth : Method) (c : Code) (n0 : Nat) (T : State) (h : Heap) (k n : Nat) : Prop :=
  ∃ locs, Stand p l e R s m args below meth c T locs k n ∧ T.heap = h ∧ Fr n0 locs
def own_P (s : State) (n0 : Nat) (Qf : Option Value → Heap → Prop) (C S : Nat) (o : Outcome) (U' : State) : Prop := ∃ v L, o = .returned v ∧ (Fr n0 L ∧ Qf v U'.heap) ∧ FrameEnd s o U' L C S
/-- a body's contract: called with 'as' at the heap h0 it returns, and Qf holds of what it returns and of the heap -/
def own_Con (l : Launch) (Z : State) (y : MethodName) (bytes : ByteArray) (maxL : Nat) (ret : Option FieldType) (ws : List Jvm.Cond) (rm : Room) (as' : Array Value) (h0 : Heap) (n0 : Nat) (Qf : Option Value → Heap → Prop) : Prop :=
  MetFree l y (head1 (Jvm.Cond.code y bytes maxL ret :: ws) rm) (fun a U => a = as' ∧ Z.Warmed39 U.vm ∧ U.heap = h0) (fun _ _ _ _ _ => True) (fun _ U o U' => ∃ v L, o = .returned v ∧ (Fr n0 L ∧ Qf v U'.heap) ∧ FrameEnd U o U' L rm.cells rm.slots)
variable {p : Program} {l : Launch} {e : Env} {R : Room} {s : State} {m : MethodId} {args : Array Value} {below : List Frame} {meth : Method} {c : Code} {n0 : Nat} {T : State} {h : Heap} {k n : Nat} {Z : State} {a0 : Array Value} {P : Outcome → State → Prop}
theorem own_here (Y : own_S p l e R s m args below meth c n0 T h k n) : At T m c below := by
  obtain ⟨_, X, -⟩ := Y
  exact X.here
theorem own_body {y : MethodName} {bytes : ByteArray} {maxL : Nat} {ret : Option FieldType} {ws : List Jvm.Cond} {rm : Room} {as' : Array Value} {h0 : Heap} {Qf : Option Value → Heap → Prop} (hpn : plainFor y = true)
    (hbody : ∀ (p : Program) (e : Env) (s : State) (m : MethodId) (below : List Frame) (meth : Method) (c : Code) (T : State), p.tables.exec = Jvm.exec → Z.Warmed39 s.vm → c.code = bytes → c.maxLocals = maxL → s.vm.findClass y.cls = some m.cls → meth.name = y.name → meth.sig.returnType = ret → meth.locks = false →
      own_S p l e rm s m as' below meth c n0 T h0 0 0 → own_Ends p.tables e below (own_P s n0 Qf rm.cells rm.slots) (T.setTop (entryFrame m as' maxL))) : own_Con l Z y bytes maxL ret ws rm as' h0 n0 Qf := by
  refine MetFree.of_bodySF hpn hisR ?_
  intro p e s m args below meth c s₁ Bd hml0 hP hK
  obtain ⟨rfl, hZ, hh⟩ := hP
  have hown : s.vm.findClass y.cls = some m.cls := findClass_of_methodNamed Bd.named
  have hnm := (name_of_methodNamed Bd.named Bd.method).1
  exact hbody p e s m below meth c s₁ Bd.exec hZ Bd.bytes hml0 hown hnm Bd.returns Bd.notSynchronized ⟨[], Stand.of_body Bd, by rw [← hh, Bd.state]; rfl, Fr.nil n0⟩
theorem own_leave (Y : own_S p l e R s m args below meth c n0 T h k n) (hlk : meth.locks = false) {v : Option Value} (hv : meth.sig.returnType = none → v = none) {Qf : Option Value → Heap → Prop} {C S : Nat} (hk : k ≤ C) (hn : n ≤ S) (hQ : Qf v h) {A : State}
    (st : ∀ (locs : List Loc) (fs : List Frame), Stand p l e R s m args below meth c T locs k n → (∀ (f : JFrame) (acts : List Action), f.method = m → f.locked = none → f.entered = [] → (doReturn e (T.setTop f) acts v).1 = T.setFrames fs) → Steps p.tables e below A (T.setFrames fs)) : own_Ends p.tables e below (own_P s n0 Qf C S) A := by
  obtain ⟨locs, X, e1, N⟩ := Y
  obtain ⟨fs, hr, hrun, hended, hW, hsame⟩ := X.leave hv hlk
  refine ⟨_, _, st locs fs X hr, hrun, hended, v, locs, rfl, ⟨N, ?_⟩, ⟨_, rfl⟩, hW, hsame.mono hk hn⟩
  show Qf v T.heap
  rw [e1]; exact hQ
theorem own_ret (Y : own_S p l e R s m args below meth c n0 T h k n) (hx : p.tables.exec = Jvm.exec) (hlk : meth.locks = false) {pc : Nat} {Ls : Array Slot} {w : Value} {t : FieldType} {i : Instr} {rest : List Value} (hret : meth.sig.returnType = some t) (hd : decode c.code pc = .ok (i, 1)) (hn : narrow t w = w)
    (hi : (i = .ireturn ∧ (t = .int ∨ t = .boolean ∨ t = .byte ∨ t = .char ∨ t = .short) ∧ ∃ z, w = .int z) ∨ (i = .lreturn ∧ t = .long ∧ ∃ z, w = .long z) ∨ (i = .dreturn ∧ t = .double ∧ ∃ z, w = .double z) ∨ (i = .freturn ∧ t = .float ∧ ∃ z, w = .float z) ∨ (i = .areturn ∧ t.isReference = true ∧ w.isRef = true))
    {Qf : Option Value → Heap → Prop} {C S : Nat} (hk : k ≤ C) (hs : n ≤ S) (hQ : Qf (some w) h) : own_Ends p.tables e below (own_P s n0 Qf C S) (T.setTop (mkF m pc Ls (w :: rest))) :=
  own_leave Y hlk (fun q => by rw [hret] at q; cases q) hk hs hQ fun _ _ X hr => retOut X hx hret hn hi hd hr
theorem own_retI (Y : own_S p l e R s m args below meth c n0 T h k n) (hx : p.tables.exec = Jvm.exec) (hlk : meth.locks = false) {pc : Nat} {Ls : Array Slot} {z : Int32} {rest : List Value} (hret : meth.sig.returnType = some .int) (hd : decode c.code pc = .ok (.ireturn, 1))
    {Qf : Option Value → Heap → Prop} {C S : Nat} (hk : k ≤ C) (hs : n ≤ S) (hQ : Qf (some (.int z)) h) : own_Ends p.tables e below (own_P s n0 Qf C S) (T.setTop (mkF m pc Ls (.int z :: rest))) :=
  own_ret Y hx hlk hret hd rfl (Or.inl ⟨rfl, Or.inl rfl, _, rfl⟩) hk hs hQ
theorem own_retN (Y : own_S p l e R s m args below meth c n0 T h k n) (hx : p.tables.exec = Jvm.exec) (hlk : meth.locks = false) {pc : Nat} {Ls : Array Slot} {z : Int32} {t : FieldType} {rest : List Value} (hret : meth.sig.returnType = some t) (ht : t = .boolean ∨ t = .byte ∨ t = .char ∨ t = .short) (hd : decode c.code pc = .ok (.ireturn, 1))
    {Qf : Option Value → Heap → Prop} {C S : Nat} (hk : k ≤ C) (hs : n ≤ S) (hQ : Qf (some (.int (nar t z))) h) : own_Ends p.tables e below (own_P s n0 Qf C S) (T.setTop (mkF m pc Ls (.int z :: rest))) :=
  own_leave Y hlk (fun q => by rw [hret] at q; cases q) hk hs hQ fun _ _ X hr => retN X hx hret ht hd hr
theorem own_retJ (Y : own_S p l e R s m args below meth c n0 T h k n) (hx : p.tables.exec = Jvm.exec) (hlk : meth.locks = false) {pc : Nat} {Ls : Array Slot} {z : Int64} {rest : List Value} (hret : meth.sig.returnType = some .long) (hd : decode c.code pc = .ok (.lreturn, 1))
    {Qf : Option Value → Heap → Prop} {C S : Nat} (hk : k ≤ C) (hs : n ≤ S) (hQ : Qf (some (.long z)) h) : own_Ends p.tables e below (own_P s n0 Qf C S) (T.setTop (mkF m pc Ls (.long z :: rest))) :=
  own_ret Y hx hlk hret hd rfl (Or.inr (Or.inl ⟨rfl, rfl, _, rfl⟩)) hk hs hQ
theorem own_retA (Y : own_S p l e R s m args below meth c n0 T h k n) (hx : p.tables.exec = Jvm.exec) (hlk : meth.locks = false) {pc : Nat} {Ls : Array Slot} {w : Value} {t : FieldType} {rest : List Value} (hret : meth.sig.returnType = some t) (ht : t.isReference = true) (hw : w.isRef = true) (hn : narrow t w = w) (hd : decode c.code pc = .ok (.areturn, 1))
    {Qf : Option Value → Heap → Prop} {C S : Nat} (hk : k ≤ C) (hs : n ≤ S) (hQ : Qf (some w) h) : own_Ends p.tables e below (own_P s n0 Qf C S) (T.setTop (mkF m pc Ls (w :: rest))) :=
  own_ret Y hx hlk hret hd hn (Or.inr (Or.inr (Or.inr (Or.inr ⟨rfl, ht, hw⟩)))) hk hs hQ
theorem own_retV (Y : own_S p l e R s m args below meth c n0 T h k n) (hx : p.tables.exec = Jvm.exec) (hlk : meth.locks = false) {pc : Nat} {Ls : Array Slot} (hret : meth.sig.returnType = none) (hd : decode c.code pc = .ok (.return_, 1))
    {Qf : Option Value → Heap → Prop} {C S : Nat} (hk : k ≤ C) (hs : n ≤ S) (hQ : Qf none h) : own_Ends p.tables e below (own_P s n0 Qf C S) (T.setTop (mkF m pc Ls [])) :=
  own_leave Y hlk (fun _ => rfl) hk hs hQ fun _ _ X hr => X.returnOut hx hret hd hr
/-! fields -/
theorem own_getF (Y : own_S p l e R s m args below meth c n0 T h k n) (hx : p.tables.exec = Jvm.exec) (hZ : Z.Warmed39 s.vm) {own R0 O f d host : String} {index : Nat} (hown : s.vm.findClass own = some m.cls) (w : (Jvm.Cond.fieldLink own index R0 f d).before a0 Z = true ∨ (Jvm.Cond.fieldLinkNest own index R0 f d host).before a0 Z = true) (via : Via Z R0 O f d) {a : Addr} {v : Value} (F : Fld Z h a O f d v)
    {g : JFrame} (hg : g.method = m) {rest : List Value} (hs : g.stack = .ref a :: rest) (hd : decode c.code g.pc = .ok (.getfield index, 3)) (K : ∀ T', own_S p l e R s m args below meth c n0 T' h k n → own_Ends p.tables e below P (T'.setTop { g with pc := g.pc + 3, stack := v :: rest })) : own_Ends p.tables e below P (T.setTop g) := by
  obtain ⟨locs, X, e1, N⟩ := Y
  obtain ⟨T', X', e', st⟩ := getF X hx hZ hown w via e1 F hg hs hd
  exact own_st st (K T' ⟨locs, X', e', N⟩)
theorem own_putF (Y : own_S p l e R s m args below meth c n0 T h k n) (hx : p.tables.exec = Jvm.exec) (hZ : Z.Warmed39 s.vm) {own R0 O f d host C : String} {index kk : Nat} {ty : FieldType} (hown : s.vm.findClass own = some m.cls) (w : (Jvm.Cond.fieldLink own index R0 f d).before a0 Z = true ∨ (Jvm.Cond.fieldLinkNest own index R0 f d host).before a0 Z = true) (via : Via Z R0 O f d) {a : Addr} {v old : Value} (F : Fld Z h a O f d old) (E : Exa Z h a C)
    (L : (Jvm.Cond.lays C O f d).before a0 Z = true ∨ ((Jvm.Cond.laysFinal C O f d).before a0 Z = true ∧ own = O ∧ meth.name = "<init>")) (wi : (Jvm.Cond.instantiable C kk).before a0 Z = true) (ha : n0 ≤ a) (hty : parseFieldDescriptor d = some ty) (hn : narrow ty v = v) (hf : fits ty v = true) {g : JFrame} (hg : g.method = m) {rest : List Value} (hs : g.stack = v :: .ref a :: rest) (hd : decode c.code g.pc = .ok (.putfield index, 3))
    (K : ∀ T' h', own_S p l e R s m args below meth c n0 T' h' k n → Wr h h' a (Jvm.RoadKit.slotOf Z O f d) v → Fld Z h' a O f d v → own_Ends p.tables e below P (T'.setTop { g with pc := g.pc + 3, stack := rest })) : own_Ends p.tables e below P (T.setTop g) := by
  obtain ⟨locs, X, e1, N⟩ := Y
  obtain ⟨T', h', X', e', W, st⟩ := putF X hx hZ hown w via e1 F E L wi hty hn hf hg hs hd
  exact own_st st (K T' h' ⟨_, X', e', Fr.snoc X' N ha⟩ W (F.same W))
theorem own_putFN (Y : own_S p l e R s m args below meth c n0 T h k n) (hx : p.tables.exec = Jvm.exec) (hZ : Z.Warmed39 s.vm) {own R0 O f d C : String} {index kk : Nat} {ty : FieldType} (hown : s.vm.findClass own = some m.cls) (w : (Jvm.Cond.fieldLink own index R0 f d).before a0 Z = true) (via : Via Z R0 O f d) {a : Addr} {v v' old : Value} (F : Fld Z h a O f d old) (E : Exa Z h a C)
    (L : (Jvm.Cond.lays C O f d).before a0 Z = true ∨ ((Jvm.Cond.laysFinal C O f d).before a0 Z = true ∧ own = O ∧ meth.name = "<init>")) (wi : (Jvm.Cond.instantiable C kk).before a0 Z = true) (ha : n0 ≤ a) (hty : parseFieldDescriptor d = some ty) (hn : narrow ty v = v') (hf : fits ty v' = true) {g : JFrame} (hg : g.method = m) {rest : List Value} (hs : g.stack = v :: .ref a :: rest) (hd : decode c.code g.pc = .ok (.putfield index, 3))
    (K : ∀ T' h', own_S p l e R s m args below meth c n0 T' h' k n → Wr h h' a (Jvm.RoadKit.slotOf Z O f d) v' → Fld Z h' a O f d v' → own_Ends p.tables e below P (T'.setTop { g with pc := g.pc + 3, stack := rest })) : own_Ends p.tables e below P (T.setTop g) := by
  obtain ⟨locs, X, e1, N⟩ := Y
  obtain ⟨T', h', X', e', W, st⟩ := putFN X hx hZ hown w via e1 F E L wi hty hn hf hg hs hd
  exact own_st st (K T' h' ⟨_, X', e', Fr.snoc X' N ha⟩ W (F.same W))
theorem own_getS (Y : own_S p l e R s m args below meth c n0 T h k n) (hx : p.tables.exec = Jvm.exec) (hZ : Z.Warmed39 s.vm) {own R0 O f d host : String} {index : Nat} (hown : s.vm.findClass own = some m.cls) (w : (Jvm.Cond.fieldLink own index R0 f d).before a0 Z = true ∨ (Jvm.Cond.fieldLinkNest own index R0 f d host).before a0 Z = true) (via : Via Z R0 O f d) {v : Value} (F : Sta Z h O f d v)
    {g : JFrame} (hg : g.method = m) (hd : decode c.code g.pc = .ok (.getstatic index, 3)) (K : ∀ T', own_S p l e R s m args below meth c n0 T' h k n → own_Ends p.tables e below P (T'.setTop { g with pc := g.pc + 3, stack := v :: g.stack })) : own_Ends p.tables e below P (T.setTop g) := by
  obtain ⟨locs, X, e1, N⟩ := Y
  obtain ⟨T', X', e', st⟩ := getS2 X hx hZ hown w via e1 F hg hd
  exact own_st st (K T' ⟨locs, X', e', N⟩)
/-! new objects -/
theorem own_new (Y : own_S p l e R s m args below meth c n0 T h k n) (hx : p.tables.exec = Jvm.exec) (hZ : Z.Warmed39 s.vm) {own C : String} {index nn : Nat} (hown : s.vm.findClass own = some m.cls) (w : (Jvm.Cond.classLink own index C).before a0 Z = true) (wi : (Jvm.Cond.instantiable C nn).before a0 Z = true) (wz : (Jvm.Cond.initialized C).before a0 Z = true)
    {g : JFrame} (hg : g.method = m) (hd : decode c.code g.pc = .ok (.new index, 3)) (hc : k + 1 ≤ R.cells) (hl : n + nn ≤ R.slots)
    (K : ∀ T' h' b, b = h.size → own_S p l e R s m args below meth c n0 T' h' (k + 1) (n + nn) → Ext h h' → Exa Z h' b C → (∀ (O nm d : String) (ty : FieldType), Laid Z a0 C O nm d → parseFieldDescriptor d = some ty → Fld Z h' b O nm d (defaultValue ty)) →
      own_Ends p.tables e below P (T'.setTop { g with pc := g.pc + 3, stack := .ref b :: g.stack })) : own_Ends p.tables e below P (T.setTop g) := by
  obtain ⟨locs, X, e1, N⟩ := Y
  obtain ⟨T', h', X', e', E, A, D, -, st⟩ := newO X hx hZ hown w wi wz e1 hg hd hc hl
  exact own_st st (K T' h' _ rfl ⟨locs, X', e', N⟩ E A (fun _ _ _ _ q r => D q r))
theorem own_initO (Y : own_S p l e R s m args below meth c n0 T h k n) (hx : p.tables.exec = Jvm.exec) (hZ : Z.Warmed39 s.vm) {own : String} {idx : Nat} (hown : s.vm.findClass own = some m.cls) (w1 : (Jvm.Cond.methodLink own idx Lib.objectInit).before a0 Z = true) (w2 : (Jvm.Cond.instanceMethod Lib.objectInit).before a0 Z = true) (w3 : (Jvm.Cond.code Lib.objectInit ⟨#[0xb1]⟩ 1 none).before a0 Z = true)
    {g : JFrame} (hg : g.method = m) (hsize : g.locals.size = c.maxLocals) {a : Addr} {rest : List Value} (hs : g.stack = .ref a :: rest) (hd : decode c.code g.pc = .ok (.invokespecial idx, 3)) (hf : 1 ≤ R.frames) {W : Nat} (hW : 2 * g.monitorRoom + (rest.map fun v => v.category).sum ≤ W) (hl : W + 12 ≤ R.locals)
    (K : ∀ T', own_S p l e R s m args below meth c n0 T' h k n → own_Ends p.tables e below P (T'.setTop { g with pc := g.pc + 3, stack := rest })) : own_Ends p.tables e below P (T.setTop g) := by
  obtain ⟨locs, X, e1, N⟩ := Y
  obtain ⟨T', X', e', st⟩ := initO X hx hZ hown w1 w2 w3 e1 hg hsize hs hd hf hW hl
  exact own_st st (K T' ⟨locs, X', e', N⟩)
/-! arrays: the cell's slots are the list vs -/
def own_A (Z : State) (h : Heap) (a : Addr) (ty : FieldType) (vs : List Value) : Prop := ∃ c : Cell, Arr Z h a c ty ∧ c.slots.toList = vs ∧ vs.length < 2 ^ 31
theorem own_A.lt {a : Addr} {ty : FieldType} {vs : List Value} (A : own_A Z h a ty vs) : a < h.size := by obtain ⟨c, A, -⟩ := A; exact A.lt
theorem own_A.ext {h' : Heap} {a : Addr} {ty : FieldType} {vs : List Value} (A : own_A Z h a ty vs) (E : Ext h h') : own_A Z h' a ty vs := by obtain ⟨c, A, r⟩ := A; exact ⟨c, A.ext E, r⟩
theorem own_A.other {h' : Heap} {a b : Addr} {sl : Nat} {v : Value} {ty : FieldType} {vs : List Value} (A : own_A Z h a ty vs) (W : Wr h h' b sl v) (q : a ≠ b) : own_A Z h' a ty vs := by obtain ⟨c, A, r⟩ := A; exact ⟨c, A.other W q, r⟩
theorem own_A.keep {h' : Heap} {a : Addr} {ws : List Addr} {ty : FieldType} {vs : List Value} (A : own_A Z h a ty vs) (K : Keep h h' ws) (q : a ∉ ws) : own_A Z h' a ty vs := by obtain ⟨c, A, r⟩ := A; exact ⟨c, ⟨K.2.1 a c A.1 q, A.2⟩, r⟩
theorem own_sz {c : Cell} {vs : List Value} (q : c.slots.toList = vs) : c.slots.size = vs.length := by rw [← q]; simp
theorem own_in {c : Cell} {vs : List Value} {j : Int32} {i : Nat} (q : c.slots.toList = vs) (hj : ¬ j < 0) (hi : j.toNatClampNeg = i) (hl : i < vs.length) : ¬ (j < 0 ∨ c.slots.size ≤ j.toNatClampNeg) := by
  rw [own_sz q, hi]; intro z; rcases z with z | z
  · exact hj z
  · omega
theorem own_get {c : Cell} {vs : List Value} {j : Int32} {i : Nat} {v : Value} (q : c.slots.toList = vs) (hi : j.toNatClampNeg = i) (hv : vs[i]? = some v) : c.slots[j.toNatClampNeg]? = some v := by
  rw [hi, ← Array.getElem?_toList, q, hv]
theorem own_A.set {h' : Heap} {a : Addr} {ty : FieldType} {vs : List Value} {cl : Cell} {i : Nat} {v : Value} (A : Arr Z h a cl ty) (q : cl.slots.toList = vs) (hl : vs.length < 2 ^ 31) (W : Wr h h' a i v) : own_A Z h' a ty (vs.set i v) :=
  ⟨_, A.same W, by simp [Cell.setSlot, q], by simpa using hl⟩
theorem own_newP (Y : own_S p l e R s m args below meth c n0 T h k n) (hx : p.tables.exec = Jvm.exec) (hZ : Z.Warmed39 s.vm) {aty : ArrayType} (w : (Jvm.Cond.arrayClass (newarray.typeOf aty)).before a0 Z = true) {g : JFrame} (hg : g.method = m) (hd : decode c.code g.pc = .ok (.newarray aty, 2)) {z : Int32} {rest : List Value} (hs : g.stack = .int z :: rest)
    (hz : ¬ z < 0) {nz cap : Nat} (hn : z.toNatClampNeg = nz) (hcap : nz ≤ cap) (hb : cap * 8 ≤ 536870912) (hc : k + 1 ≤ R.cells) (hl : n + cap ≤ R.slots) {ty : FieldType} (hty : newarray.typeOf aty = ty)
    (K : ∀ T' h' b, b = h.size → own_S p l e R s m args below meth c n0 T' h' (k + 1) (n + cap) → Ext h h' → own_A Z h' b ty (List.replicate nz (defaultValue ty)) → own_Ends p.tables e below P (T'.setTop { g with pc := g.pc + 2, stack := .ref b :: rest })) : own_Ends p.tables e below P (T.setTop g) := by
  obtain ⟨locs, X, e1, N⟩ := Y
  subst hty
  obtain ⟨T', h', cA, X', e', E, A, st⟩ := newP X hx hZ w e1 hg hd hs hz (cap := cap) (by rw [hn]; exact hcap) hb hc hl
  refine own_st st (K T' h' _ rfl ⟨locs, X', e', N⟩ E ⟨_, A, ?_, ?_⟩)
  · simp [newA, hn]
  · simp; omega
theorem own_newR (Y : own_S p l e R s m args below meth c n0 T h k n) (hx : p.tables.exec = Jvm.exec) (hZ : Z.Warmed39 s.vm) {own C : String} {index : Nat} (hown : s.vm.findClass own = some m.cls) (w1 : (Jvm.Cond.classLink own index C).before a0 Z = true) (w2 : (Jvm.Cond.arrayOver (.object C)).before a0 Z = true) {g : JFrame} (hg : g.method = m) (hd : decode c.code g.pc = .ok (.anewarray index, 3)) {z : Int32} {rest : List Value} (hs : g.stack = .int z :: rest)
    (hz : ¬ z < 0) {nz cap : Nat} (hn : z.toNatClampNeg = nz) (hcap : nz ≤ cap) (hb : cap * 8 ≤ 536870912) (hc : k + 1 ≤ R.cells) (hl : n + cap ≤ R.slots)
    (K : ∀ T' h' b, b = h.size → own_S p l e R s m args below meth c n0 T' h' (k + 1) (n + cap) → Ext h h' → own_A Z h' b (.object C) (List.replicate nz .null) → own_Ends p.tables e below P (T'.setTop { g with pc := g.pc + 3, stack := .ref b :: rest })) : own_Ends p.tables e below P (T.setTop g) := by
  obtain ⟨locs, X, e1, N⟩ := Y
  obtain ⟨T', h', cA, X', e', E, A, O, st⟩ := newR X hx hZ hown w1 w2 e1 hg hd hs hz (cap := cap) (by rw [hn]; exact hcap) hb hc hl
  refine own_st st (K T' h' _ rfl ⟨locs, X', e', N⟩ E ⟨_, A, ?_, ?_⟩)
  · simp [newA, hn, defaultValue]
  · simp; omega
theorem own_mono (Y : own_S p l e R s m args below meth c n0 T h k n) {k' n' : Nat} (hk : k ≤ k') (hn : n ≤ n') : own_S p l e R s m args below meth c n0 T h k' n' := by
  obtain ⟨locs, X, r⟩ := Y
  exact ⟨locs, { X with same := X.same.mono hk hn }, r⟩
theorem own_stI (Y : own_S p l e R s m args below meth c n0 T h k n) (hx : p.tables.exec = Jvm.exec) (hZ : Z.Warmed39 s.vm) {a : Addr} {vs : List Value} (A : own_A Z h a .int vs) (ha : n0 ≤ a) {j x : Int32} {i : Nat} (hj : ¬ j < 0) (hi : j.toNatClampNeg = i) (hl : i < vs.length) {g : JFrame} (hg : g.method = m) {rest : List Value} (hs : g.stack = .int x :: .int j :: .ref a :: rest) (hd : decode c.code g.pc = .ok (.iastore, 1))
    (K : ∀ T' h', own_S p l e R s m args below meth c n0 T' h' k n → Wr h h' a i (.int x) → own_A Z h' a .int (vs.set i (.int x)) → own_Ends p.tables e below P (T'.setTop { g with pc := g.pc + 1, stack := rest })) : own_Ends p.tables e below P (T.setTop g) := by
  obtain ⟨locs, X, e1, N⟩ := Y
  obtain ⟨cl, A, q, r⟩ := A
  obtain ⟨T', h', X', e', W, st⟩ := stI X hx hZ e1 A (own_in q hj hi hl) hg hs hd
  have W' := W; rw [hi] at W'
  exact own_st st (K T' h' ⟨_, X', e', Fr.snoc X' N ha⟩ W' (own_A.set A q r W'))
theorem own_stJ (Y : own_S p l e R s m args below meth c n0 T h k n) (hx : p.tables.exec = Jvm.exec) (hZ : Z.Warmed39 s.vm) {a : Addr} {vs : List Value} (A : own_A Z h a .long vs) (ha : n0 ≤ a) {j : Int32} {x : Int64} {i : Nat} (hj : ¬ j < 0) (hi : j.toNatClampNeg = i) (hl : i < vs.length) {g : JFrame} (hg : g.method = m) {rest : List Value} (hs : g.stack = .long x :: .int j :: .ref a :: rest) (hd : decode c.code g.pc = .ok (.lastore, 1))
    (K : ∀ T' h', own_S p l e R s m args below meth c n0 T' h' k n → Wr h h' a i (.long x) → own_A Z h' a .long (vs.set i (.long x)) → own_Ends p.tables e below P (T'.setTop { g with pc := g.pc + 1, stack := rest })) : own_Ends p.tables e below P (T.setTop g) := by
  obtain ⟨locs, X, e1, N⟩ := Y
  obtain ⟨cl, A, q, r⟩ := A
  obtain ⟨T', h', X', e', W, st⟩ := stJ X hx hZ e1 A (own_in q hj hi hl) hg hs hd
  have W' := W; rw [hi] at W'
  exact own_st st (K T' h' ⟨_, X', e', Fr.snoc X' N ha⟩ W' (own_A.set A q r W'))
theorem own_stB (Y : own_S p l e R s m args below meth c n0 T h k n) (hx : p.tables.exec = Jvm.exec) (hZ : Z.Warmed39 s.vm) {a : Addr} {vs : List Value} (A : own_A Z h a .byte vs) (ha : n0 ≤ a) {j x : Int32} {i : Nat} (hj : ¬ j < 0) (hi : j.toNatClampNeg = i) (hl : i < vs.length) {g : JFrame} (hg : g.method = m) {rest : List Value} (hs : g.stack = .int x :: .int j :: .ref a :: rest) (hd : decode c.code g.pc = .ok (.bastore, 1))
    (K : ∀ T' h', own_S p l e R s m args below meth c n0 T' h' k n → Wr h h' a i (.int x.toInt8.toInt32) → own_A Z h' a .byte (vs.set i (.int x.toInt8.toInt32)) → own_Ends p.tables e below P (T'.setTop { g with pc := g.pc + 1, stack := rest })) : own_Ends p.tables e below P (T.setTop g) := by
  obtain ⟨locs, X, e1, N⟩ := Y
  obtain ⟨cl, A, q, r⟩ := A
  obtain ⟨T', h', X', e', W, st⟩ := stB X hx hZ e1 A (own_in q hj hi hl) hg hs hd
  have W' := W; rw [hi] at W'
  exact own_st st (K T' h' ⟨_, X', e', Fr.snoc X' N ha⟩ W' (own_A.set A q r W'))
theorem own_stC (Y : own_S p l e R s m args below meth c n0 T h k n) (hx : p.tables.exec = Jvm.exec) (hZ : Z.Warmed39 s.vm) {a : Addr} {vs : List Value} (A : own_A Z h a .char vs) (ha : n0 ≤ a) {j x : Int32} {i : Nat} (hj : ¬ j < 0) (hi : j.toNatClampNeg = i) (hl : i < vs.length) {g : JFrame} (hg : g.method = m) {rest : List Value} (hs : g.stack = .int x :: .int j :: .ref a :: rest) (hd : decode c.code g.pc = .ok (.castore, 1))
    (K : ∀ T' h', own_S p l e R s m args below meth c n0 T' h' k n → Wr h h' a i (.int x.toUInt32.toUInt16.toUInt32.toInt32) → own_A Z h' a .char (vs.set i (.int x.toUInt32.toUInt16.toUInt32.toInt32)) → own_Ends p.tables e below P (T'.setTop { g with pc := g.pc + 1, stack := rest })) : own_Ends p.tables e below P (T.setTop g) := by
  obtain ⟨locs, X, e1, N⟩ := Y
  obtain ⟨cl, A, q, r⟩ := A
  obtain ⟨T', h', X', e', W, st⟩ := stC X hx hZ e1 A (own_in q hj hi hl) hg hs hd
  have W' := W; rw [hi] at W'
  exact own_st st (K T' h' ⟨_, X', e', Fr.snoc X' N ha⟩ W' (own_A.set A q r W'))
theorem own_len (Y : own_S p l e R s m args below meth c n0 T h k n) (hx : p.tables.exec = Jvm.exec) (hZ : Z.Warmed39 s.vm) {a : Addr} {ty : FieldType} {vs : List Value} (A : own_A Z h a ty vs) {z : Int32} (hz : vs.length.toInt32 = z) {g : JFrame} (hg : g.method = m) {rest : List Value} (hs : g.stack = .ref a :: rest) (hd : decode c.code g.pc = .ok (.arraylength, 1))
    (K : own_Ends p.tables e below P (T.setTop { g with pc := g.pc + 1, stack := .int z :: rest })) : own_Ends p.tables e below P (T.setTop g) := by
  obtain ⟨locs, X, e1, N⟩ := Y
  obtain ⟨cl, A, q, r⟩ := A
  refine own_st (fun t => X.arraylength hx (by rw [e1]; exact A.1) (State.isArrayOf_alike hZ.alike A.2.1) hg hs hd t) ?_
  rw [own_sz q, hz]; exact K
theorem own_ldI (Y : own_S p l e R s m args below meth c n0 T h k n) (hx : p.tables.exec = Jvm.exec) (hZ : Z.Warmed39 s.vm) {a : Addr} {vs : List Value} (A : own_A Z h a .int vs) {j : Int32} {i : Nat} (hj : ¬ j < 0) (hi : j.toNatClampNeg = i) (hl : i < vs.length) {v : Value} (hv : vs[i]? = some v) {g : JFrame} (hg : g.method = m) {rest : List Value} (hs : g.stack = .int j :: .ref a :: rest) (hd : decode c.code g.pc = .ok (.iaload, 1))
    (K : own_Ends p.tables e below P (T.setTop { g with pc := g.pc + 1, stack := v :: rest })) : own_Ends p.tables e below P (T.setTop g) := by
  obtain ⟨locs, X, e1, N⟩ := Y
  obtain ⟨cl, A, q, r⟩ := A
  exact own_st (fun t => X.iaload hx (by rw [e1]; exact A.1) (State.isArrayOf_alike hZ.alike A.2.1) A.2.2 (own_in q hj hi hl) (own_get q hi hv) hg hs hd t) K
theorem own_ldB (Y : own_S p l e R s m args below meth c n0 T h k n) (hx : p.tables.exec = Jvm.exec) (hZ : Z.Warmed39 s.vm) {a : Addr} {vs : List Value} (A : own_A Z h a .byte vs) {j : Int32} {i : Nat} (hj : ¬ j < 0) (hi : j.toNatClampNeg = i) (hl : i < vs.length) {v : Value} (hv : vs[i]? = some v) {g : JFrame} (hg : g.method = m) {rest : List Value} (hs : g.stack = .int j :: .ref a :: rest) (hd : decode c.code g.pc = .ok (.baload, 1))
    (K : own_Ends p.tables e below P (T.setTop { g with pc := g.pc + 1, stack := v :: rest })) : own_Ends p.tables e below P (T.setTop g) := by
  obtain ⟨locs, X, e1, N⟩ := Y
  obtain ⟨cl, A, q, r⟩ := A
  exact own_st (fun t => X.baloadBytes hx (by rw [e1]; exact A.1) (State.isArrayOf_alike hZ.alike A.2.1) A.2.2 (own_in q hj hi hl) (own_get q hi hv) hg hs hd t) K
theorem own_ldC (Y : own_S p l e R s m args below meth c n0 T h k n) (hx : p.tables.exec = Jvm.exec) (hZ : Z.Warmed39 s.vm) {a : Addr} {vs : List Value} (A : own_A Z h a .char vs) {j : Int32} {i : Nat} (hj : ¬ j < 0) (hi : j.toNatClampNeg = i) (hl : i < vs.length) {v : Value} (hv : vs[i]? = some v) {g : JFrame} (hg : g.method = m) {rest : List Value} (hs : g.stack = .int j :: .ref a :: rest) (hd : decode c.code g.pc = .ok (.caload, 1))
    (K : own_Ends p.tables e below P (T.setTop { g with pc := g.pc + 1, stack := v :: rest })) : own_Ends p.tables e below P (T.setTop g) := by
  obtain ⟨locs, X, e1, N⟩ := Y
  obtain ⟨cl, A, q, r⟩ := A
  exact own_st (fun t => X.caload hx (by rw [e1]; exact A.1) (State.isArrayOf_alike hZ.alike A.2.1) A.2.2 (own_in q hj hi hl) (own_get q hi hv) hg hs hd t) K
theorem own_ldJ (Y : own_S p l e R s m args below meth c n0 T h k n) (hx : p.tables.exec = Jvm.exec) (hZ : Z.Warmed39 s.vm) {a : Addr} {vs : List Value} (A : own_A Z h a .long vs) {j : Int32} {i : Nat} (hj : ¬ j < 0) (hi : j.toNatClampNeg = i) (hl : i < vs.length) {v : Value} (hv : vs[i]? = some v) {g : JFrame} (hg : g.method = m) {rest : List Value} (hs : g.stack = .int j :: .ref a :: rest) (hd : decode c.code g.pc = .ok (.laload, 1))
    (K : own_Ends p.tables e below P (T.setTop { g with pc := g.pc + 1, stack := v :: rest })) : own_Ends p.tables e below P (T.setTop g) := by
  obtain ⟨locs, X, e1, N⟩ := Y
  obtain ⟨cl, A, q, r⟩ := A
  exact own_st (fun t => X.laload hx (by rw [e1]; exact A.1) (State.isArrayOf_alike hZ.alike A.2.1) A.2.2 (own_in q hj hi hl) (own_get q hi hv) hg hs hd t) K
/-! constants -/
theorem own_ldcI (Y : own_S p l e R s m args below meth c n0 T h k n) (hx : p.tables.exec = Jvm.exec) (hZ : Z.Warmed39 s.vm) {own : String} {index : Nat} {v : Int32} (hown : s.vm.findClass own = some m.cls) (w : (Jvm.Cond.constant own index v).before a0 Z = true) {g : JFrame} (hg : g.method = m) (hd : decode c.code g.pc = .ok (.ldc index, 2))
    (K : own_Ends p.tables e below P (T.setTop { g with pc := g.pc + 2, stack := .int v :: g.stack })) : own_Ends p.tables e below P (T.setTop g) := by
  obtain ⟨locs, X, e1, N⟩ := Y
  exact own_st (X.ldcInt hx hown (mvT hZ w) hg hd) K
theorem own_ldcJ (Y : own_S p l e R s m args below meth c n0 T h k n) (hx : p.tables.exec = Jvm.exec) (hZ : Z.Warmed39 s.vm) {own : String} {index : Nat} {v : Int64} (hown : s.vm.findClass own = some m.cls) (w : (Jvm.Cond.constantLong own index v).before a0 Z = true) {g : JFrame} (hg : g.method = m) (hd : decode c.code g.pc = .ok (.ldc2_w index, 3))
    (K : own_Ends p.tables e below P (T.setTop { g with pc := g.pc + 3, stack := .long v :: g.stack })) : own_Ends p.tables e below P (T.setTop g) := by
  obtain ⟨locs, X, e1, N⟩ := Y
  exact own_st (X.ldc2Long hx hown (mvT hZ w) hg hd) K
/-! calls by contract -/
theorem own_callS (Y : own_S p l e R s m args below meth c n0 T h k n) (hx : p.tables.exec = Jvm.exec) (hZ : Z.Warmed39 s.vm) {own : String} {index : Nat} {y : MethodName} {bytes : ByteArray} {maxL : Nat} {ret : Option FieldType} (hown : s.vm.findClass own = some m.cls) (wl : (Jvm.Cond.methodLink own index y).before a0 Z = true) (wst : (Jvm.Cond.static y).before a0 Z = true) (wi : (Jvm.Cond.initialized y.cls).before a0 Z = true) (wc : (Jvm.Cond.code y bytes maxL ret).before a0 Z = true)
    (hy : y.cls ≠ "java/lang/invoke/MethodHandle" ∧ y.cls ≠ "java/lang/invoke/VarHandle") {rm : Room} {argsL rest : List Value} {Qf : Option Value → Heap → Prop} (hM : own_Con l Z y bytes maxL ret [] rm argsL.toArray h n0 Qf) {W : Nat} (hfr : rm.frames + 1 ≤ R.frames) (hlo : W + (maxL + 11) + rm.locals ≤ R.locals) (hc : k + rm.cells ≤ R.cells) (hsl : n + rm.slots ≤ R.slots)
    {g : JFrame} (hg : g.method = m) (hsize : g.locals.size = c.maxLocals) (hlen : ∀ sig, parseMethodDescriptor y.desc = some sig → argsL.length = sig.parameters.length) (hs : g.stack = argsL.reverse ++ rest) (hW : 2 * g.monitorRoom + (rest.map fun v => v.category).sum ≤ W) (hd : decode c.code g.pc = .ok (.invokestatic index, 3))
    (K : ∀ T' h' v, own_S p l e R s m args below meth c n0 T' h' (k + rm.cells) (n + rm.slots) → Qf v h' → own_Ends p.tables e below P (T'.setTop { g with pc := g.pc + 3, stack := v.toList ++ rest })) : own_Ends p.tables e below P (T.setTop g) := by
  obtain ⟨locs, X, e1, N⟩ := Y
  obtain ⟨v, vm1, ⟨T', L', k', n'⟩, -, X', ⟨L, hQ, l1, y1, z1⟩, st⟩ := Jvm.LawKit.callS X hx hown (mvT hZ wl) (mvT hZ wst) (mvT hZ wi) (mvT hZ wc) hy (backOf (W := W) (Q := fun v h L => Fr n0 L ∧ Qf v h) hM hZ wc wi hfr hlo) hg hsize hlen hs hW hd (fun _ _ => ⟨rfl, e1, hc, hsl⟩)
  dsimp only [Pt.U, Pt.locs, Pt.cells, Pt.slots] at X' l1 y1 z1 st hQ
  subst l1 y1 z1
  exact own_st st (K T' _ v ⟨_, X', rfl, Fr.app N hQ.1⟩ hQ.2)
theorem own_callN (Y : own_S p l e R s m args below meth c n0 T h k n) (hx : p.tables.exec = Jvm.exec) (hZ : Z.Warmed39 s.vm) {own : String} {index : Nat} {y : MethodName} {bytes : ByteArray} {maxL : Nat} (hy1 : y.name = "<init>") (hown : s.vm.findClass own = some m.cls) (wl : (Jvm.Cond.methodLink own index y).before a0 Z = true) (win : (Jvm.Cond.instanceMethod y).before a0 Z = true) (wi : (Jvm.Cond.initialized y.cls).before a0 Z = true) (wc : (Jvm.Cond.code y bytes maxL none).before a0 Z = true)
    (hy : y.cls ≠ "java/lang/invoke/MethodHandle" ∧ y.cls ≠ "java/lang/invoke/VarHandle") {rm : Room} {a : Addr} {argsL rest : List Value} {Qf : Option Value → Heap → Prop} (hM : own_Con l Z y bytes maxL none [] rm (.ref a :: argsL).toArray h n0 Qf) {W : Nat} (hfr : rm.frames + 1 ≤ R.frames) (hlo : W + (maxL + 11) + rm.locals ≤ R.locals) (hc : k + rm.cells ≤ R.cells) (hsl : n + rm.slots ≤ R.slots)
    {g : JFrame} (hg : g.method = m) (hsize : g.locals.size = c.maxLocals) (hlen : ∀ sig, parseMethodDescriptor y.desc = some sig → argsL.length = sig.parameters.length) (hs : g.stack = argsL.reverse ++ .ref a :: rest) (hW : 2 * g.monitorRoom + (rest.map fun v => v.category).sum ≤ W) (hd : decode c.code g.pc = .ok (.invokespecial index, 3))
    (K : ∀ T' h' v, own_S p l e R s m args below meth c n0 T' h' (k + rm.cells) (n + rm.slots) → Qf v h' → own_Ends p.tables e below P (T'.setTop { g with pc := g.pc + 3, stack := v.toList ++ rest })) : own_Ends p.tables e below P (T.setTop g) := by
  obtain ⟨locs, X, e1, N⟩ := Y
  obtain ⟨v, vm1, ⟨T', L', k', n'⟩, -, X', ⟨L, hQ, l1, y1, z1⟩, st⟩ := X.specialBack hx hy1 hown (mvT hZ wl) (mvT hZ win) (mvT hZ wc) hy (backOf (W := W) (Q := fun v h L => Fr n0 L ∧ Qf v h) hM hZ wc wi hfr hlo) hg hsize (Steps.refl _) hlen hs hW hd (fun _ _ => ⟨rfl, e1, hc, hsl⟩)
  dsimp only [Pt.U, Pt.locs, Pt.cells, Pt.slots] at X' l1 y1 z1 st hQ
  subst l1 y1 z1
  exact own_st (fun t q => st.trans q) (K T' _ v ⟨_, X', rfl, Fr.app N hQ.1⟩ hQ.2)
theorem own_callV (Y : own_S p l e R s m args below meth c n0 T h k n) (hx : p.tables.exec = Jvm.exec) (hZ : Z.Warmed39 s.vm) {own C : String} {index : Nat} {y z : MethodName} {bytes : ByteArray} {maxL : Nat} {ret : Option FieldType} (hown : s.vm.findClass own = some m.cls) (wl : (Jvm.Cond.methodLink own index y).before a0 Z = true) (wd : (Jvm.Cond.declares y).before a0 Z = true) (hnf : NotFace s y) (wse : (Jvm.Cond.selects C y z).before a0 Z = true) (win : (Jvm.Cond.instanceMethod z).before a0 Z = true) (wi : (Jvm.Cond.initialized z.cls).before a0 Z = true) (wc : (Jvm.Cond.code z bytes maxL ret).before a0 Z = true)
    (hy : y.cls ≠ "java/lang/invoke/MethodHandle" ∧ y.cls ≠ "java/lang/invoke/VarHandle") {rm : Room} {a : Addr} (E : Exa Z h a C) {argsL rest : List Value} {Qf : Option Value → Heap → Prop} (hM : own_Con l Z z bytes maxL ret [] rm (.ref a :: argsL).toArray h n0 Qf) {W : Nat} (hfr : rm.frames + 1 ≤ R.frames) (hlo : W + (maxL + 11) + rm.locals ≤ R.locals) (hc : k + rm.cells ≤ R.cells) (hsl : n + rm.slots ≤ R.slots)
    {g : JFrame} (hg : g.method = m) (hsize : g.locals.size = c.maxLocals) (hlen : ∀ sig, parseMethodDescriptor y.desc = some sig → argsL.length = sig.parameters.length) (hs : g.stack = argsL.reverse ++ .ref a :: rest) (hW : 2 * g.monitorRoom + (rest.map fun v => v.category).sum ≤ W) (hd : decode c.code g.pc = .ok (.invokevirtual index, 3))
    (K : ∀ T' h' v, own_S p l e R s m args below meth c n0 T' h' (k + rm.cells) (n + rm.slots) → Qf v h' → own_Ends p.tables e below P (T'.setTop { g with pc := g.pc + 3, stack := v.toList ++ rest })) : own_Ends p.tables e below P (T.setTop g) := by
  obtain ⟨locs, X, e1, N⟩ := Y
  obtain ⟨cq, kq, qa, qb, qc⟩ := isOf hZ e1 E
  obtain ⟨v, vm1, ⟨T', L', k', n'⟩, -, X', ⟨L, hQ, l1, y1, z1⟩, st⟩ := X.virtualBack hx hown (mvT hZ wl) (mvT hZ wd) hnf (mvT hZ wse) (mvT hZ win) hy (backOf (W := W) (Q := fun v h L => Fr n0 L ∧ Qf v h) hM hZ wc wi hfr hlo) qa qc hg hsize (Steps.refl _) hlen hs hW hd (fun _ _ => ⟨rfl, e1, hc, hsl⟩)
  dsimp only [Pt.U, Pt.locs, Pt.cells, Pt.slots] at X' l1 y1 z1 st hQ
  subst l1 y1 z1
  exact own_st (fun t q => st.trans q) (K T' _ v ⟨_, X', rfl, Fr.app N hQ.1⟩ hQ.2)
theorem own_callU (Y : own_S p l e R s m args below meth c n0 T h k n) (hx : p.tables.exec = Jvm.exec) (hZ : Z.Warmed39 s.vm) {own C owner : String} {index : Nat} {y z : MethodName} {bytes : ByteArray} {maxL : Nat} {ret : Option FieldType} (hown : s.vm.findClass own = some m.cls) (wl : (Jvm.Cond.methodLink own index y).before a0 Z = true) (wsm : (Jvm.Cond.sameMethod y.cls owner y.name y.desc).before a0 Z = true) (wd : (Jvm.Cond.declares ⟨owner, y.name, y.desc⟩).before a0 Z = true) (wse : (Jvm.Cond.selects C y z).before a0 Z = true) (win : (Jvm.Cond.instanceMethod z).before a0 Z = true) (wi : (Jvm.Cond.initialized z.cls).before a0 Z = true) (wc : (Jvm.Cond.code z bytes maxL ret).before a0 Z = true)
    (hy : owner ≠ "java/lang/invoke/MethodHandle" ∧ owner ≠ "java/lang/invoke/VarHandle") {rm : Room} {a : Addr} (E : Exa Z h a C) {argsL rest : List Value} {Qf : Option Value → Heap → Prop} (hM : own_Con l Z z bytes maxL ret [] rm (.ref a :: argsL).toArray h n0 Qf) {W : Nat} (hfr : rm.frames + 1 ≤ R.frames) (hlo : W + (maxL + 11) + rm.locals ≤ R.locals) (hc : k + rm.cells ≤ R.cells) (hsl : n + rm.slots ≤ R.slots)
    {g : JFrame} (hg : g.method = m) (hsize : g.locals.size = c.maxLocals) (hlen : ∀ sig, parseMethodDescriptor y.desc = some sig → argsL.length = sig.parameters.length) (hs : g.stack = argsL.reverse ++ .ref a :: rest) (hW : 2 * g.monitorRoom + (rest.map fun v => v.category).sum ≤ W) (hd : decode c.code g.pc = .ok (.invokevirtual index, 3))
    (K : ∀ T' h' v, own_S p l e R s m args below meth c n0 T' h' (k + rm.cells) (n + rm.slots) → Qf v h' → own_Ends p.tables e below P (T'.setTop { g with pc := g.pc + 3, stack := v.toList ++ rest })) : own_Ends p.tables e below P (T.setTop g) := by
  obtain ⟨locs, X, e1, N⟩ := Y
  obtain ⟨cq, kq, qa, qb, qc⟩ := isOf hZ e1 E
  obtain ⟨v, vm1, ⟨T', L', k', n'⟩, -, X', ⟨L, hQ, l1, y1, z1⟩, st⟩ := X.virtualBackUp hx hown (mvT hZ wl) (mvT hZ wsm) (mvT hZ wd) hy (mvT hZ wse) (mvT hZ win) (backOf (W := W) (Q := fun v h L => Fr n0 L ∧ Qf v h) hM hZ wc wi hfr hlo) qa qc hg hsize (Steps.refl _) hlen hs hW hd (fun _ _ => ⟨rfl, e1, hc, hsl⟩)
  dsimp only [Pt.U, Pt.locs, Pt.cells, Pt.slots] at X' l1 y1 z1 st hQ
  subst l1 y1 z1
  exact own_st (fun t q => st.trans q) (K T' _ v ⟨_, X', rfl, Fr.app N hQ.1⟩ hQ.2)
theorem own_callP (Y : own_S p l e R s m args below meth c n0 T h k n) (hx : p.tables.exec = Jvm.exec) (hZ : Z.Warmed39 s.vm) {own C : String} {index : Nat} {y : MethodName} {bytes : ByteArray} {maxL : Nat} {ret : Option FieldType} (hown : s.vm.findClass own = some m.cls) (wl : (Jvm.Cond.methodLink own index y).before a0 Z = true) {nn : Nat} (win : (Jvm.Cond.instanceMethod y).before a0 Z = true) (wn : (Jvm.Cond.instantiable y.cls nn).before a0 Z = true) (wp : (Jvm.Cond.privateMethod y).before a0 Z = true) (wi : (Jvm.Cond.initialized y.cls).before a0 Z = true) (wc : (Jvm.Cond.code y bytes maxL ret).before a0 Z = true)
    (hy : y.cls ≠ "java/lang/invoke/MethodHandle" ∧ y.cls ≠ "java/lang/invoke/VarHandle") {rm : Room} {a : Addr} (E : Exa Z h a C) {argsL rest : List Value} {Qf : Option Value → Heap → Prop} (hM : own_Con l Z y bytes maxL ret [] rm (.ref a :: argsL).toArray h n0 Qf) {W : Nat} (hfr : rm.frames + 1 ≤ R.frames) (hlo : W + (maxL + 11) + rm.locals ≤ R.locals) (hc : k + rm.cells ≤ R.cells) (hsl : n + rm.slots ≤ R.slots)
    {g : JFrame} (hg : g.method = m) (hsize : g.locals.size = c.maxLocals) (hlen : ∀ sig, parseMethodDescriptor y.desc = some sig → argsL.length = sig.parameters.length) (hs : g.stack = argsL.reverse ++ .ref a :: rest) (hW : 2 * g.monitorRoom + (rest.map fun v => v.category).sum ≤ W) (hd : decode c.code g.pc = .ok (.invokevirtual index, 3))
    (K : ∀ T' h' v, own_S p l e R s m args below meth c n0 T' h' (k + rm.cells) (n + rm.slots) → Qf v h' → own_Ends p.tables e below P (T'.setTop { g with pc := g.pc + 3, stack := v.toList ++ rest })) : own_Ends p.tables e below P (T.setTop g) := by
  obtain ⟨locs, X, e1, N⟩ := Y
  obtain ⟨cell, q, q'⟩ := E.cell
  have wn' : (Jvm.Cond.instantiable y.cls nn).before #[] s = true := mvT hZ wn
  obtain ⟨ci, ki, hi1, hi2, -, hi4, -⟩ := Cond.instantiable_spec wn'
  have wse : (Jvm.Cond.selects y.cls y y).before args s = true := selects_self_of_private hi1 hi2 (by simpa using (Bool.or_eq_false_iff.mp hi4).1) (Cond.privateMethod_at (mvP hZ wp (args := #[]))) (mvT hZ win) hy
  obtain ⟨v, vm1, ⟨T', L', k', n'⟩, -, X', ⟨L, hQ, l1, y1, z1⟩, st⟩ := X.privateBack hx hown (mvT hZ wl) (mvT hZ win) wse (Cond.privateMethod_at (mvP hZ wp (args := #[]))) (mvT hZ wc) hy (backOf (W := W) (Q := fun v h L => Fr n0 L ∧ Qf v h) hM hZ wc wi hfr hlo) hg hsize (Steps.refl _) (by rw [e1]; exact q) q' hlen hs hW hd (fun _ _ => ⟨rfl, e1, hc, hsl⟩)
  dsimp only [Pt.U, Pt.locs, Pt.cells, Pt.slots] at X' l1 y1 z1 st hQ
  subst l1 y1 z1
  exact own_st (fun t q => st.trans q) (K T' _ v ⟨_, X', rfl, Fr.app N hQ.1⟩ hQ.2)
end OwnLayer
section OwnNums
def own_b (b : Bool) : Int32 := if b then 1 else 0
theorem own_b_t {b : Bool} (h : b = true) : own_b b = 1 := by subst h; rfl
theorem own_b_f {b : Bool} (h : b = false) : own_b b = 0 := by subst h; rfl
theorem own_b_0 (b : Bool) : own_b b = 0 ↔ b = false := by cases b <;> simp [own_b]
theorem own_b_n (b : Bool) : nar .boolean (own_b b) = own_b b := by cases b <;> rfl
theorem own_b_inj {a b : Bool} : own_b a = own_b b ↔ a = b := by cases a <;> cases b <;> simp [own_b]
theorem own_idx {j : Int32} {n : Nat} (h0 : 0 ≤ j.toInt) (h1 : j.toInt < (n : Int)) : ¬ j < 0 ∧ j.toNatClampNeg < n := by
  refine ⟨?_, ?_⟩
  · rw [Int32.lt_iff_toInt_lt]; show ¬ j.toInt < 0; omega
  · show j.toInt.toNat < n; omega
theorem own_ints {xs : List Int32} {i : Nat} (h : i < xs.length) : ∃ d, (xs.map Value.int)[i]? = some (.int d) ∧ d = xs[i] := ⟨xs[i], by simp [h], rfl⟩
theorem own_longs {xs : List Int64} {i : Nat} (h : i < xs.length) : ∃ d, (xs.map Value.long)[i]? = some (.long d) ∧ d = xs[i] := ⟨xs[i], by simp [h], rfl⟩
/-- p i, p (i + 1), .., k of them, all hold -/
def own_all (p : Nat → Bool) : Nat → Nat → Bool
  | _, 0 => true
  | i, k + 1 => p i && own_all p (i + 1) k
theorem own_mget {xs : List Int32} {i : Nat} (h : i < (xs.map Value.int).length) : (xs.map Value.int)[i]? = some (.int (xs.getD i 0)) := by
  have h' : i < xs.length := by simpa using h
  simp [h', List.getD]
theorem own_mlen {xs : List Int32} {i : Nat} (h : i < xs.length) : i < (xs.map Value.int).length := by simpa using h
theorem own_nat {j : Int32} {i : Nat} (h : j.toInt = (i : Int)) : ¬ j < 0 ∧ j.toNatClampNeg = i := by
  refine ⟨?_, ?_⟩
  · rw [Int32.lt_iff_toInt_lt]; show ¬ j.toInt < 0; omega
  · show j.toInt.toNat = i; omega
theorem own_inc {j : Int32} {i : Nat} (h : j.toInt = (i : Int)) (hi : i + 1 < 2147483648) : (j + 1).toInt = ((i + 1 : Nat) : Int) := by
  have := c_iadd j 1
  have h1 : (1 : Int32).toInt = 1 := rfl
  have := rng32 (j + 1)
  omega
theorem own_lt {x y : Int32} : x < y ↔ x.toInt < y.toInt := Int32.lt_iff_toInt_lt
theorem own_eq {x y : Int32} : x = y ↔ x.toInt = y.toInt := Int32.toInt_inj.symm
theorem own_tolen {ys : List Int32} {z : Int32} (h : z.toInt = (ys.length : Int)) : (ys.map Value.int).length.toInt32 = z := by
  have q := rng32 z
  have e : (ys.map Value.int).length = ys.length := by simp
  rw [own_eq, len_toInt (by rw [e]; omega), e, h]
theorem own_add {x y : Int32} {a b : Nat} (h1 : x.toInt = (a : Int)) (h2 : y.toInt = (b : Int)) (hi : a + b < 2147483648) : (x + y).toInt = ((a + b : Nat) : Int) := by
  have := c_iadd x y
  have := rng32 (x + y)
  omega
theorem own_sub {x y : Int32} {a b : Nat} (h1 : x.toInt = (a : Int)) (h2 : y.toInt = (b : Int)) : (x - y).toInt = (a : Int) - (b : Int) := by
  have := c_isub x y
  have := rng32 (x - y)
  have := rng32 x
  have := rng32 y
  omega
end OwnNums
def own_mix (x : Int64) : Int64 :=
  let a := (x ^^^ ((x.toUInt64 >>> ((30 : Int32) &&& 0x3f).toInt64.toUInt64).toInt64)) * (-4658895280553007687 : Int64)
  let b := (a ^^^ ((a.toUInt64 >>> ((27 : Int32) &&& 0x3f).toInt64.toUInt64).toInt64)) * (-7723592293110705685 : Int64)
  b ^^^ ((b.toUInt64 >>> ((31 : Int32) &&& 0x3f).toInt64.toUInt64).toInt64)
theorem own_pn0 : plainName "com/example/fillgauge/fillgauge/core/RandomStream" = true := by first | (simp [plainName, overriddenIn]; done) | decide +kernel
theorem own_d5_0 : decode prog_34_method_11_code 0 = .ok (.lload_n 0, 1) := by decide +kernel
theorem own_d5_1 : decode prog_34_method_11_code 1 = .ok (.lload_n 0, 1) := by decide +kernel
theorem own_d5_2 : decode prog_34_method_11_code 2 = .ok (.bipush 30, 2) := by decide +kernel
theorem own_d5_4 : decode prog_34_method_11_code 4 = .ok (.lushr, 1) := by decide +kernel
theorem own_d5_5 : decode prog_34_method_11_code 5 = .ok (.lxor, 1) := by decide +kernel
theorem own_d5_6 : decode prog_34_method_11_code 6 = .ok (.ldc2_w 61, 3) := by decide +kernel
theorem own_d5_9 : decode prog_34_method_11_code 9 = .ok (.lmul, 1) := by decide +kernel
theorem own_d5_10 : decode prog_34_method_11_code 10 = .ok (.lstore_n 0, 1) := by decide +kernel
theorem own_d5_11 : decode prog_34_method_11_code 11 = .ok (.lload_n 0, 1) := by decide +kernel
theorem own_d5_12 : decode prog_34_method_11_code 12 = .ok (.lload_n 0, 1) := by decide +kernel
theorem own_d5_13 : decode prog_34_method_11_code 13 = .ok (.bipush 27, 2) := by decide +kernel
theorem own_d5_15 : decode prog_34_method_11_code 15 = .ok (.lushr, 1) := by decide +kernel
theorem own_d5_16 : decode prog_34_method_11_code 16 = .ok (.lxor, 1) := by decide +kernel
theorem own_d5_17 : decode prog_34_method_11_code 17 = .ok (.ldc2_w 63, 3) := by decide +kernel
theorem own_d5_20 : decode prog_34_method_11_code 20 = .ok (.lmul, 1) := by decide +kernel
theorem own_d5_21 : decode prog_34_method_11_code 21 = .ok (.lstore_n 0, 1) := by decide +kernel
theorem own_d5_22 : decode prog_34_method_11_code 22 = .ok (.lload_n 0, 1) := by decide +kernel
theorem own_d5_23 : decode prog_34_method_11_code 23 = .ok (.lload_n 0, 1) := by decide +kernel
theorem own_d5_24 : decode prog_34_method_11_code 24 = .ok (.bipush 31, 2) := by decide +kernel
theorem own_d5_26 : decode prog_34_method_11_code 26 = .ok (.lushr, 1) := by decide +kernel
theorem own_d5_27 : decode prog_34_method_11_code 27 = .ok (.lxor, 1) := by decide +kernel
theorem own_d5_28 : decode prog_34_method_11_code 28 = .ok (.lreturn, 1) := by decide +kernel
theorem own_ef_own_rm5 (m : MethodId) (x0 : Int64) : entryFrame m #[(.long x0)] 2 = mkF m 0 #[.val (.long x0), .second] [] := by first | (simp [entryFrame, mkF, argsToLocals, Value.category]; done) | rfl
def own_Q_own_rm5 (Z : State) (x0 : Int64) (h0 : Heap) (n0 : Nat) (v : Option Value) (h : Heap) : Prop := v = some (.long (own_mix x0)) ∧ h0 = h
set_option maxRecDepth 65536 in
set_option maxHeartbeats 40000000 in
theorem own_rm5 (l : Launch) (Z : State) (a0 : Array Value) (hw : ∀ d ∈ tables_1, d.before a0 Z = true) (ws : List Jvm.Cond) (x0 : Int64)  (h0 : Heap) (n0 : Nat)   :
    own_Con l Z (⟨"com/example/fillgauge/fillgauge/core/RandomStream", "mix", "(J)J"⟩ : MethodName) prog_34_method_11_code 2 (some .long) ws ({ frames := 0, cells := 0, slots := 0, locals := 0 } : Room) #[(.long x0)] h0 n0 (own_Q_own_rm5 Z x0 h0 n0) := by
  refine own_body (plainFor_of_name own_pn0) ?_
  intro p e s m below meth c T0 hx hZ hby hml hown hnm hret hlk Y0
  replace hown : s.vm.findClass "com/example/fillgauge/fillgauge/core/RandomStream" = some m.cls := hown
  replace hnm : meth.name = "mix" := hnm
  rw [own_ef_own_rm5 m x0]
  show own_Ends _ _ _ _ (T0.setTop (mkF m 0 #[.val (.long x0), .second] []))
  refine own_st (fun t => XS.lloadN (own_here Y0) hx rfl (hb hby own_d5_0) rfl) ?_
  show own_Ends _ _ _ _ (T0.setTop (mkF m 1 #[.val (.long x0), .second] [(.long x0)]))
  refine own_st (fun t => XS.lloadN (own_here Y0) hx rfl (hb hby own_d5_1) rfl) ?_
  show own_Ends _ _ _ _ (T0.setTop (mkF m 2 #[.val (.long x0), .second] [(.long x0), (.long x0)]))
  refine own_st (fun t => XS.bipush (own_here Y0) hx rfl (hb hby own_d5_2) ) ?_
  show own_Ends _ _ _ _ (T0.setTop (mkF m 4 #[.val (.long x0), .second] [(.int (30 : Int32)), (.long x0), (.long x0)]))
  refine own_st (fun t => XS.lushr (own_here Y0) hx rfl (hb hby own_d5_4) rfl) ?_
  show own_Ends _ _ _ _ (T0.setTop (mkF m 5 #[.val (.long x0), .second] [(.long ((x0.toUInt64 >>> ((30 : Int32) &&& 0x3f).toInt64.toUInt64).toInt64)), (.long x0)]))
  refine own_st (fun t => XS.lxor (own_here Y0) hx rfl (hb hby own_d5_5) rfl) ?_
  show own_Ends _ _ _ _ (T0.setTop (mkF m 6 #[.val (.long x0), .second] [(.long (x0 ^^^ ((x0.toUInt64 >>> ((30 : Int32) &&& 0x3f).toInt64.toUInt64).toInt64)))]))
  refine own_ldcJ Y0 hx hZ hown (hw _ (List.mem_of_getElem? (i := 25) rfl)) rfl (hb hby own_d5_6) ?_
  show own_Ends _ _ _ _ (T0.setTop (mkF m 9 #[.val (.long x0), .second] [(.long (-4658895280553007687 : Int64)), (.long (x0 ^^^ ((x0.toUInt64 >>> ((30 : Int32) &&& 0x3f).toInt64.toUInt64).toInt64)))]))
  refine own_st (fun t => XS.lmul (own_here Y0) hx rfl (hb hby own_d5_9) rfl) ?_
  show own_Ends _ _ _ _ (T0.setTop (mkF m 10 #[.val (.long x0), .second] [(.long ((x0 ^^^ ((x0.toUInt64 >>> ((30 : Int32) &&& 0x3f).toInt64.toUInt64).toInt64)) * (-4658895280553007687 : Int64)))]))
  refine own_st (fun t => XS.lstoreN (own_here Y0) hx rfl (hb hby own_d5_10) rfl (l' := #[.val (.long ((x0 ^^^ ((x0.toUInt64 >>> ((30 : Int32) &&& 0x3f).toInt64.toUInt64).toInt64)) * (-4658895280553007687 : Int64))), .second]) rfl) ?_
  show own_Ends _ _ _ _ (T0.setTop (mkF m 11 #[.val (.long ((x0 ^^^ ((x0.toUInt64 >>> ((30 : Int32) &&& 0x3f).toInt64.toUInt64).toInt64)) * (-4658895280553007687 : Int64))), .second] []))
  refine own_st (fun t => XS.lloadN (own_here Y0) hx rfl (hb hby own_d5_11) rfl) ?_
  show own_Ends _ _ _ _ (T0.setTop (mkF m 12 #[.val (.long ((x0 ^^^ ((x0.toUInt64 >>> ((30 : Int32) &&& 0x3f).toInt64.toUInt64).toInt64)) * (-4658895280553007687 : Int64))), .second] [(.long ((x0 ^^^ ((x0.toUInt64 >>> ((30 : Int32) &&& 0x3f).toInt64.toUInt64).toInt64)) * (-4658895280553007687 : Int64)))]))
  refine own_st (fun t => XS.lloadN (own_here Y0) hx rfl (hb hby own_d5_12) rfl) ?_
  show own_Ends _ _ _ _ (T0.setTop (mkF m 13 #[.val (.long ((x0 ^^^ ((x0.toUInt64 >>> ((30 : Int32) &&& 0x3f).toInt64.toUInt64).toInt64)) * (-4658895280553007687 : Int64))), .second] [(.long ((x0 ^^^ ((x0.toUInt64 >>> ((30 : Int32) &&& 0x3f).toInt64.toUInt64).toInt64)) * (-4658895280553007687 : Int64))), (.long ((x0 ^^^ ((x0.toUInt64 >>> ((30 : Int32) &&& 0x3f).toInt64.toUInt64).toInt64)) * (-4658895280553007687 : Int64)))]))
  refine own_st (fun t => XS.bipush (own_here Y0) hx rfl (hb hby own_d5_13) ) ?_
  show own_Ends _ _ _ _ (T0.setTop (mkF m 15 #[.val (.long ((x0 ^^^ ((x0.toUInt64 >>> ((30 : Int32) &&& 0x3f).toInt64.toUInt64).toInt64)) * (-4658895280553007687 : Int64))), .second] [(.int (27 : Int32)), (.long ((x0 ^^^ ((x0.toUInt64 >>> ((30 : Int32) &&& 0x3f).toInt64.toUInt64).toInt64)) * (-4658895280553007687 : Int64))), (.long ((x0 ^^^ ((x0.toUInt64 >>> ((30 : Int32) &&& 0x3f).toInt64.toUInt64).toInt64)) * (-4658895280553007687 : Int64)))]))
  refine own_st (fun t => XS.lushr (own_here Y0) hx rfl (hb hby own_d5_15) rfl) ?_
  show own_Ends _ _ _ _ (T0.setTop (mkF m 16 #[.val (.long ((x0 ^^^ ((x0.toUInt64 >>> ((30 : Int32) &&& 0x3f).toInt64.toUInt64).toInt64)) * (-4658895280553007687 : Int64))), .second] [(.long ((((x0 ^^^ ((x0.toUInt64 >>> ((30 : Int32) &&& 0x3f).toInt64.toUInt64).toInt64)) * (-4658895280553007687 : Int64)).toUInt64 >>> ((27 : Int32) &&& 0x3f).toInt64.toUInt64).toInt64)), (.long ((x0 ^^^ ((x0.toUInt64 >>> ((30 : Int32) &&& 0x3f).toInt64.toUInt64).toInt64)) * (-4658895280553007687 : Int64)))]))
  refine own_st (fun t => XS.lxor (own_here Y0) hx rfl (hb hby own_d5_16) rfl) ?_
  show own_Ends _ _ _ _ (T0.setTop (mkF m 17 #[.val (.long ((x0 ^^^ ((x0.toUInt64 >>> ((30 : Int32) &&& 0x3f).toInt64.toUInt64).toInt64)) * (-4658895280553007687 : Int64))), .second] [(.long (((x0 ^^^ ((x0.toUInt64 >>> ((30 : Int32) &&& 0x3f).toInt64.toUInt64).toInt64)) * (-4658895280553007687 : Int64)) ^^^ ((((x0 ^^^ ((x0.toUInt64 >>> ((30 : Int32) &&& 0x3f).toInt64.toUInt64).toInt64)) * (-4658895280553007687 : Int64)).toUInt64 >>> ((27 : Int32) &&& 0x3f).toInt64.toUInt64).toInt64)))]))
  refine own_ldcJ Y0 hx hZ hown (hw _ (List.mem_of_getElem? (i := 26) rfl)) rfl (hb hby own_d5_17) ?_
  show own_Ends _ _ _ _ (T0.setTop (mkF m 20 #[.val (.long ((x0 ^^^ ((x0.toUInt64 >>> ((30 : Int32) &&& 0x3f).toInt64.toUInt64).toInt64)) * (-4658895280553007687 : Int64))), .second] [(.long (-7723592293110705685 : Int64)), (.long (((x0 ^^^ ((x0.toUInt64 >>> ((30 : Int32) &&& 0x3f).toInt64.toUInt64).toInt64)) * (-4658895280553007687 : Int64)) ^^^ ((((x0 ^^^ ((x0.toUInt64 >>> ((30 : Int32) &&& 0x3f).toInt64.toUInt64).toInt64)) * (-4658895280553007687 : Int64)).toUInt64 >>> ((27 : Int32) &&& 0x3f).toInt64.toUInt64).toInt64)))]))
  refine own_st (fun t => XS.lmul (own_here Y0) hx rfl (hb hby own_d5_20) rfl) ?_
  show own_Ends _ _ _ _ (T0.setTop (mkF m 21 #[.val (.long ((x0 ^^^ ((x0.toUInt64 >>> ((30 : Int32) &&& 0x3f).toInt64.toUInt64).toInt64)) * (-4658895280553007687 : Int64))), .second] [(.long ((((x0 ^^^ ((x0.toUInt64 >>> ((30 : Int32) &&& 0x3f).toInt64.toUInt64).toInt64)) * (-4658895280553007687 : Int64)) ^^^ ((((x0 ^^^ ((x0.toUInt64 >>> ((30 : Int32) &&& 0x3f).toInt64.toUInt64).toInt64)) * (-4658895280553007687 : Int64)).toUInt64 >>> ((27 : Int32) &&& 0x3f).toInt64.toUInt64).toInt64)) * (-7723592293110705685 : Int64)))]))
  refine own_st (fun t => XS.lstoreN (own_here Y0) hx rfl (hb hby own_d5_21) rfl (l' := #[.val (.long ((((x0 ^^^ ((x0.toUInt64 >>> ((30 : Int32) &&& 0x3f).toInt64.toUInt64).toInt64)) * (-4658895280553007687 : Int64)) ^^^ ((((x0 ^^^ ((x0.toUInt64 >>> ((30 : Int32) &&& 0x3f).toInt64.toUInt64).toInt64)) * (-4658895280553007687 : Int64)).toUInt64 >>> ((27 : Int32) &&& 0x3f).toInt64.toUInt64).toInt64)) * (-7723592293110705685 : Int64))), .second]) rfl) ?_
  show own_Ends _ _ _ _ (T0.setTop (mkF m 22 #[.val (.long ((((x0 ^^^ ((x0.toUInt64 >>> ((30 : Int32) &&& 0x3f).toInt64.toUInt64).toInt64)) * (-4658895280553007687 : Int64)) ^^^ ((((x0 ^^^ ((x0.toUInt64 >>> ((30 : Int32) &&& 0x3f).toInt64.toUInt64).toInt64)) * (-4658895280553007687 : Int64)).toUInt64 >>> ((27 : Int32) &&& 0x3f).toInt64.toUInt64).toInt64)) * (-7723592293110705685 : Int64))), .second] []))
  refine own_st (fun t => XS.lloadN (own_here Y0) hx rfl (hb hby own_d5_22) rfl) ?_
  show own_Ends _ _ _ _ (T0.setTop (mkF m 23 #[.val (.long ((((x0 ^^^ ((x0.toUInt64 >>> ((30 : Int32) &&& 0x3f).toInt64.toUInt64).toInt64)) * (-4658895280553007687 : Int64)) ^^^ ((((x0 ^^^ ((x0.toUInt64 >>> ((30 : Int32) &&& 0x3f).toInt64.toUInt64).toInt64)) * (-4658895280553007687 : Int64)).toUInt64 >>> ((27 : Int32) &&& 0x3f).toInt64.toUInt64).toInt64)) * (-7723592293110705685 : Int64))), .second] [(.long ((((x0 ^^^ ((x0.toUInt64 >>> ((30 : Int32) &&& 0x3f).toInt64.toUInt64).toInt64)) * (-4658895280553007687 : Int64)) ^^^ ((((x0 ^^^ ((x0.toUInt64 >>> ((30 : Int32) &&& 0x3f).toInt64.toUInt64).toInt64)) * (-4658895280553007687 : Int64)).toUInt64 >>> ((27 : Int32) &&& 0x3f).toInt64.toUInt64).toInt64)) * (-7723592293110705685 : Int64)))]))
  refine own_st (fun t => XS.lloadN (own_here Y0) hx rfl (hb hby own_d5_23) rfl) ?_
  show own_Ends _ _ _ _ (T0.setTop (mkF m 24 #[.val (.long ((((x0 ^^^ ((x0.toUInt64 >>> ((30 : Int32) &&& 0x3f).toInt64.toUInt64).toInt64)) * (-4658895280553007687 : Int64)) ^^^ ((((x0 ^^^ ((x0.toUInt64 >>> ((30 : Int32) &&& 0x3f).toInt64.toUInt64).toInt64)) * (-4658895280553007687 : Int64)).toUInt64 >>> ((27 : Int32) &&& 0x3f).toInt64.toUInt64).toInt64)) * (-7723592293110705685 : Int64))), .second] [(.long ((((x0 ^^^ ((x0.toUInt64 >>> ((30 : Int32) &&& 0x3f).toInt64.toUInt64).toInt64)) * (-4658895280553007687 : Int64)) ^^^ ((((x0 ^^^ ((x0.toUInt64 >>> ((30 : Int32) &&& 0x3f).toInt64.toUInt64).toInt64)) * (-4658895280553007687 : Int64)).toUInt64 >>> ((27 : Int32) &&& 0x3f).toInt64.toUInt64).toInt64)) * (-7723592293110705685 : Int64))), (.long ((((x0 ^^^ ((x0.toUInt64 >>> ((30 : Int32) &&& 0x3f).toInt64.toUInt64).toInt64)) * (-4658895280553007687 : Int64)) ^^^ ((((x0 ^^^ ((x0.toUInt64 >>> ((30 : Int32) &&& 0x3f).toInt64.toUInt64).toInt64)) * (-4658895280553007687 : Int64)).toUInt64 >>> ((27 : Int32) &&& 0x3f).toInt64.toUInt64).toInt64)) * (-7723592293110705685 : Int64)))]))
  refine own_st (fun t => XS.bipush (own_here Y0) hx rfl (hb hby own_d5_24) ) ?_
  show own_Ends _ _ _ _ (T0.setTop (mkF m 26 #[.val (.long ((((x0 ^^^ ((x0.toUInt64 >>> ((30 : Int32) &&& 0x3f).toInt64.toUInt64).toInt64)) * (-4658895280553007687 : Int64)) ^^^ ((((x0 ^^^ ((x0.toUInt64 >>> ((30 : Int32) &&& 0x3f).toInt64.toUInt64).toInt64)) * (-4658895280553007687 : Int64)).toUInt64 >>> ((27 : Int32) &&& 0x3f).toInt64.toUInt64).toInt64)) * (-7723592293110705685 : Int64))), .second] [(.int (31 : Int32)), (.long ((((x0 ^^^ ((x0.toUInt64 >>> ((30 : Int32) &&& 0x3f).toInt64.toUInt64).toInt64)) * (-4658895280553007687 : Int64)) ^^^ ((((x0 ^^^ ((x0.toUInt64 >>> ((30 : Int32) &&& 0x3f).toInt64.toUInt64).toInt64)) * (-4658895280553007687 : Int64)).toUInt64 >>> ((27 : Int32) &&& 0x3f).toInt64.toUInt64).toInt64)) * (-7723592293110705685 : Int64))), (.long ((((x0 ^^^ ((x0.toUInt64 >>> ((30 : Int32) &&& 0x3f).toInt64.toUInt64).toInt64)) * (-4658895280553007687 : Int64)) ^^^ ((((x0 ^^^ ((x0.toUInt64 >>> ((30 : Int32) &&& 0x3f).toInt64.toUInt64).toInt64)) * (-4658895280553007687 : Int64)).toUInt64 >>> ((27 : Int32) &&& 0x3f).toInt64.toUInt64).toInt64)) * (-7723592293110705685 : Int64)))]))
  refine own_st (fun t => XS.lushr (own_here Y0) hx rfl (hb hby own_d5_26) rfl) ?_
  show own_Ends _ _ _ _ (T0.setTop (mkF m 27 #[.val (.long ((((x0 ^^^ ((x0.toUInt64 >>> ((30 : Int32) &&& 0x3f).toInt64.toUInt64).toInt64)) * (-4658895280553007687 : Int64)) ^^^ ((((x0 ^^^ ((x0.toUInt64 >>> ((30 : Int32) &&& 0x3f).toInt64.toUInt64).toInt64)) * (-4658895280553007687 : Int64)).toUInt64 >>> ((27 : Int32) &&& 0x3f).toInt64.toUInt64).toInt64)) * (-7723592293110705685 : Int64))), .second] [(.long ((((((x0 ^^^ ((x0.toUInt64 >>> ((30 : Int32) &&& 0x3f).toInt64.toUInt64).toInt64)) * (-4658895280553007687 : Int64)) ^^^ ((((x0 ^^^ ((x0.toUInt64 >>> ((30 : Int32) &&& 0x3f).toInt64.toUInt64).toInt64)) * (-4658895280553007687 : Int64)).toUInt64 >>> ((27 : Int32) &&& 0x3f).toInt64.toUInt64).toInt64)) * (-7723592293110705685 : Int64)).toUInt64 >>> ((31 : Int32) &&& 0x3f).toInt64.toUInt64).toInt64)), (.long ((((x0 ^^^ ((x0.toUInt64 >>> ((30 : Int32) &&& 0x3f).toInt64.toUInt64).toInt64)) * (-4658895280553007687 : Int64)) ^^^ ((((x0 ^^^ ((x0.toUInt64 >>> ((30 : Int32) &&& 0x3f).toInt64.toUInt64).toInt64)) * (-4658895280553007687 : Int64)).toUInt64 >>> ((27 : Int32) &&& 0x3f).toInt64.toUInt64).toInt64)) * (-7723592293110705685 : Int64)))]))
  refine own_st (fun t => XS.lxor (own_here Y0) hx rfl (hb hby own_d5_27) rfl) ?_
  show own_Ends _ _ _ _ (T0.setTop (mkF m 28 #[.val (.long ((((x0 ^^^ ((x0.toUInt64 >>> ((30 : Int32) &&& 0x3f).toInt64.toUInt64).toInt64)) * (-4658895280553007687 : Int64)) ^^^ ((((x0 ^^^ ((x0.toUInt64 >>> ((30 : Int32) &&& 0x3f).toInt64.toUInt64).toInt64)) * (-4658895280553007687 : Int64)).toUInt64 >>> ((27 : Int32) &&& 0x3f).toInt64.toUInt64).toInt64)) * (-7723592293110705685 : Int64))), .second] [(.long (((((x0 ^^^ ((x0.toUInt64 >>> ((30 : Int32) &&& 0x3f).toInt64.toUInt64).toInt64)) * (-4658895280553007687 : Int64)) ^^^ ((((x0 ^^^ ((x0.toUInt64 >>> ((30 : Int32) &&& 0x3f).toInt64.toUInt64).toInt64)) * (-4658895280553007687 : Int64)).toUInt64 >>> ((27 : Int32) &&& 0x3f).toInt64.toUInt64).toInt64)) * (-7723592293110705685 : Int64)) ^^^ ((((((x0 ^^^ ((x0.toUInt64 >>> ((30 : Int32) &&& 0x3f).toInt64.toUInt64).toInt64)) * (-4658895280553007687 : Int64)) ^^^ ((((x0 ^^^ ((x0.toUInt64 >>> ((30 : Int32) &&& 0x3f).toInt64.toUInt64).toInt64)) * (-4658895280553007687 : Int64)).toUInt64 >>> ((27 : Int32) &&& 0x3f).toInt64.toUInt64).toInt64)) * (-7723592293110705685 : Int64)).toUInt64 >>> ((31 : Int32) &&& 0x3f).toInt64.toUInt64).toInt64)))]))
  refine own_retJ Y0 hx hlk hret (hb hby own_d5_28) (by decide) (by decide) ?_
  exact ⟨rfl, rfl⟩
theorem own_d1_0 : decode prog_34_method_1_code 0 = .ok (.aload_n 0, 1) := by decide +kernel
theorem own_d1_1 : decode prog_34_method_1_code 1 = .ok (.invokespecial 1, 3) := by decide +kernel
theorem own_d1_4 : decode prog_34_method_1_code 4 = .ok (.aload_n 0, 1) := by decide +kernel
theorem own_d1_5 : decode prog_34_method_1_code 5 = .ok (.lload_n 1, 1) := by decide +kernel
theorem own_d1_6 : decode prog_34_method_1_code 6 = .ok (.putfield 7, 3) := by decide +kernel
theorem own_d1_9 : decode prog_34_method_1_code 9 = .ok (.return_, 1) := by decide +kernel
theorem own_ef_own_rm1 (m : MethodId) (r0 : Addr) (x1 : Int64) : entryFrame m #[(.ref r0), (.long x1)] 3 = mkF m 0 #[.val (.ref r0), .val (.long x1), .second] [] := by first | (simp [entryFrame, mkF, argsToLocals, Value.category]; done) | rfl
def own_Q_own_rm1 (Z : State) (r0 : Addr) (x1 : Int64) (h0 : Heap) (n0 : Nat) (v : Option Value) (h : Heap) : Prop := v = none ∧ Keep h0 h [r0] ∧ Fld Z h r0 "com/example/fillgauge/fillgauge/core/RandomStream" "state" "J" (.long x1)
set_option maxRecDepth 65536 in
set_option maxHeartbeats 40000000 in
theorem own_rm1 (l : Launch) (Z : State) (a0 : Array Value) (hw : ∀ d ∈ tables_1, d.before a0 Z = true) (ws : List Jvm.Cond) (r0 : Addr) (x1 : Int64)  (h0 : Heap) (n0 : Nat)  (E : Exa Z h0 r0 "com/example/fillgauge/fillgauge/core/RandomStream") (F : Fld Z h0 r0 "com/example/fillgauge/fillgauge/core/RandomStream" "state" "J" (.long 0)) (g : n0 ≤ r0) :
    own_Con l Z (⟨"com/example/fillgauge/fillgauge/core/RandomStream", "<init>", "(J)V"⟩ : MethodName) prog_34_method_1_code 3 none ws ({ frames := 1, cells := 0, slots := 0, locals := 12 } : Room) #[(.ref r0), (.long x1)] h0 n0 (own_Q_own_rm1 Z r0 x1 h0 n0) := by
  refine own_body (plainFor_of_name own_pn0) ?_
  intro p e s m below meth c T0 hx hZ hby hml hown hnm hret hlk Y0
  replace hown : s.vm.findClass "com/example/fillgauge/fillgauge/core/RandomStream" = some m.cls := hown
  replace hnm : meth.name = "<init>" := hnm
  rw [own_ef_own_rm1 m r0 x1]
  show own_Ends _ _ _ _ (T0.setTop (mkF m 0 #[.val (.ref r0), .val (.long x1), .second] []))
  refine own_st (fun t => XS.aloadN (own_here Y0) hx rfl (hb hby own_d1_0) rfl rfl) ?_
  show own_Ends _ _ _ _ (T0.setTop (mkF m 1 #[.val (.ref r0), .val (.long x1), .second] [(.ref r0)]))
  refine own_initO Y0 hx hZ hown (hw _ (List.mem_of_getElem? (i := 6) rfl)) (hw _ (List.mem_of_getElem? (i := 7) rfl)) (hw _ (List.mem_of_getElem? (i := 8) rfl)) rfl (by rw [hml]; rfl) rfl (hb hby own_d1_1) (by decide) (W := 0) (by show 2 * 0 + _ ≤ _; exact Nat.le_of_eq rfl) (by decide) (fun T1 Y2 => ?_)
  show own_Ends _ _ _ _ (T1.setTop (mkF m 4 #[.val (.ref r0), .val (.long x1), .second] []))
  refine own_st (fun t => XS.aloadN (own_here Y2) hx rfl (hb hby own_d1_4) rfl rfl) ?_
  show own_Ends _ _ _ _ (T1.setTop (mkF m 5 #[.val (.ref r0), .val (.long x1), .second] [(.ref r0)]))
  refine own_st (fun t => XS.lloadN (own_here Y2) hx rfl (hb hby own_d1_5) rfl) ?_
  show own_Ends _ _ _ _ (T1.setTop (mkF m 6 #[.val (.ref r0), .val (.long x1), .second] [(.long x1), (.ref r0)]))
  refine own_putF Y2 hx hZ hown (host := "") (Or.inl (hw _ (List.mem_of_getElem? (i := 9) rfl))) Via.refl F E (Or.inl (hw _ (List.mem_of_getElem? (i := 10) rfl))) (hw _ (List.mem_of_getElem? (i := 1) rfl)) g (ty := .long) (by decide) rfl rfl rfl rfl (hb hby own_d1_6) (fun T3 h5 Y4 W6 F7 => ?_)
  show own_Ends _ _ _ _ (T3.setTop (mkF m 9 #[.val (.ref r0), .val (.long x1), .second] []))
  have K8 : Keep h0 h5 [r0] := (Keep.refl h0 [r0]).wr W6 (Or.inl (List.mem_of_getElem? (i := 0) rfl))
  refine own_retV Y4 hx hlk hret (hb hby own_d1_9) (by decide) (by decide) ?_
  exact ⟨rfl, K8, F7⟩
theorem own_pd0 : parseMethodDescriptor "(J)J" = some ⟨[.long], some .long⟩ := by decide +kernel
theorem own_d4_0 : decode prog_34_method_4_code 0 = .ok (.aload_n 0, 1) := by decide +kernel
theorem own_d4_1 : decode prog_34_method_4_code 1 = .ok (.dup, 1) := by decide +kernel
theorem own_d4_2 : decode prog_34_method_4_code 2 = .ok (.getfield 7, 3) := by decide +kernel
theorem own_d4_5 : decode prog_34_method_4_code 5 = .ok (.ldc2_w 21, 3) := by decide +kernel
theorem own_d4_8 : decode prog_34_method_4_code 8 = .ok (.ladd, 1) := by decide +kernel
theorem own_d4_9 : decode prog_34_method_4_code 9 = .ok (.putfield 7, 3) := by decide +kernel
theorem own_d4_12 : decode prog_34_method_4_code 12 = .ok (.aload_n 0, 1) := by decide +kernel
theorem own_d4_13 : decode prog_34_method_4_code 13 = .ok (.getfield 7, 3) := by decide +kernel
theorem own_d4_16 : decode prog_34_method_4_code 16 = .ok (.invokestatic 13, 3) := by decide +kernel
theorem own_d4_19 : decode prog_34_method_4_code 19 = .ok (.lreturn, 1) := by decide +kernel
theorem own_ef_own_rm4 (m : MethodId) (r0 : Addr) : entryFrame m #[(.ref r0)] 1 = mkF m 0 #[.val (.ref r0)] [] := by first | (simp [entryFrame, mkF, argsToLocals, Value.category]; done) | rfl
def own_Q_own_rm4 (Z : State) (r0 : Addr) (y : Int64) (h0 : Heap) (n0 : Nat) (v : Option Value) (h : Heap) : Prop := v = some (.long (own_mix (y + (-7046029254386353131 : Int64)))) ∧ Keep h0 h [r0] ∧ Fld Z h r0 "com/example/fillgauge/fillgauge/core/RandomStream" "state" "J" (.long (y + (-7046029254386353131 : Int64)))
set_option maxRecDepth 65536 in
set_option maxHeartbeats 40000000 in
theorem own_rm4 (l : Launch) (Z : State) (a0 : Array Value) (hw : ∀ d ∈ tables_1, d.before a0 Z = true) (ws : List Jvm.Cond) (r0 : Addr) (y : Int64) (h0 : Heap) (n0 : Nat)  (E : Exa Z h0 r0 "com/example/fillgauge/fillgauge/core/RandomStream") (F : Fld Z h0 r0 "com/example/fillgauge/fillgauge/core/RandomStream" "state" "J" (.long y)) (g : n0 ≤ r0) :
    own_Con l Z (⟨"com/example/fillgauge/fillgauge/core/RandomStream", "nextLong", "()J"⟩ : MethodName) prog_34_method_4_code 1 (some .long) ws ({ frames := 1, cells := 0, slots := 0, locals := 13 } : Room) #[(.ref r0)] h0 n0 (own_Q_own_rm4 Z r0 y h0 n0) := by
  refine own_body (plainFor_of_name own_pn0) ?_
  intro p e s m below meth c T0 hx hZ hby hml hown hnm hret hlk Y0
  replace hown : s.vm.findClass "com/example/fillgauge/fillgauge/core/RandomStream" = some m.cls := hown
  replace hnm : meth.name = "nextLong" := hnm
  rw [own_ef_own_rm4 m r0]
  show own_Ends _ _ _ _ (T0.setTop (mkF m 0 #[.val (.ref r0)] []))
  refine own_st (fun t => XS.aloadN (own_here Y0) hx rfl (hb hby own_d4_0) rfl rfl) ?_
  show own_Ends _ _ _ _ (T0.setTop (mkF m 1 #[.val (.ref r0)] [(.ref r0)]))
  refine own_st (fun t => XS.dup (own_here Y0) hx rfl (hb hby own_d4_1) rfl rfl) ?_
  show own_Ends _ _ _ _ (T0.setTop (mkF m 2 #[.val (.ref r0)] [(.ref r0), (.ref r0)]))
  refine own_getF Y0 hx hZ hown (host := "") (Or.inl (hw _ (List.mem_of_getElem? (i := 9) rfl))) Via.refl F rfl rfl (hb hby own_d4_2) (fun T9 Y10 => ?_)
  show own_Ends _ _ _ _ (T9.setTop (mkF m 5 #[.val (.ref r0)] [(.long y), (.ref r0)]))
  refine own_ldcJ Y10 hx hZ hown (hw _ (List.mem_of_getElem? (i := 21) rfl)) rfl (hb hby own_d4_5) ?_
  show own_Ends _ _ _ _ (T9.setTop (mkF m 8 #[.val (.ref r0)] [(.long (-7046029254386353131 : Int64)), (.long y), (.ref r0)]))
  refine own_st (fun t => XS.ladd (own_here Y10) hx rfl (hb hby own_d4_8) rfl) ?_
  show own_Ends _ _ _ _ (T9.setTop (mkF m 9 #[.val (.ref r0)] [(.long (y + (-7046029254386353131 : Int64))), (.ref r0)]))
  refine own_putF Y10 hx hZ hown (host := "") (Or.inl (hw _ (List.mem_of_getElem? (i := 9) rfl))) Via.refl F E (Or.inl (hw _ (List.mem_of_getElem? (i := 10) rfl))) (hw _ (List.mem_of_getElem? (i := 1) rfl)) g (ty := .long) (by decide) rfl rfl rfl rfl (hb hby own_d4_9) (fun T11 h13 Y12 W14 F15 => ?_)
  show own_Ends _ _ _ _ (T11.setTop (mkF m 12 #[.val (.ref r0)] []))
  refine own_st (fun t => XS.aloadN (own_here Y12) hx rfl (hb hby own_d4_12) rfl rfl) ?_
  show own_Ends _ _ _ _ (T11.setTop (mkF m 13 #[.val (.ref r0)] [(.ref r0)]))
  refine own_getF Y12 hx hZ hown (host := "") (Or.inl (hw _ (List.mem_of_getElem? (i := 9) rfl))) Via.refl F15 rfl rfl (hb hby own_d4_13) (fun T16 Y17 => ?_)
  show own_Ends _ _ _ _ (T16.setTop (mkF m 16 #[.val (.ref r0)] [(.long (y + (-7046029254386353131 : Int64)))]))
  refine own_callS Y17 hx hZ (y := (⟨"com/example/fillgauge/fillgauge/core/RandomStream", "mix", "(J)J"⟩ : MethodName)) hown (hw _ (List.mem_of_getElem? (i := 22) rfl)) (hw _ (List.mem_of_getElem? (i := 23) rfl)) (hw _ (List.mem_of_getElem? (i := 2) rfl)) (hw _ (List.mem_of_getElem? (i := 24) rfl)) (by decide) (argsL := [(.long (y + (-7046029254386353131 : Int64)))]) (rest := []) (own_rm5 l Z a0 hw [] (y + (-7046029254386353131 : Int64))  h13 n0  ) (W := 0) (by decide) (by decide) (by decide) (by decide) rfl (by rw [hml]; rfl) (lenOf own_pd0 rfl) rfl (by show 2 * 0 + _ ≤ _; exact Nat.le_of_eq rfl) (hb hby own_d4_16) (fun T18 h20 v21 Y19 q22 => ?_)
  obtain ⟨rfl, rfl⟩ := q22
  show own_Ends _ _ _ _ (T18.setTop (mkF m 19 #[.val (.ref r0)] [(.long (own_mix (y + (-7046029254386353131 : Int64))))]))
  have K23 : Keep h0 h13 [r0] := (Keep.refl h0 [r0]).wr W14 (Or.inl (List.mem_of_getElem? (i := 0) rfl))
  refine own_retJ Y19 hx hlk hret (hb hby own_d4_19) (by decide) (by decide) ?_
  exact ⟨rfl, K23, F15⟩
theorem own_pd1 : parseMethodDescriptor "()J" = some ⟨[], some .long⟩ := by decide +kernel
theorem own_d3_0 : decode prog_34_method_8_code 0 = .ok (.aload_n 0, 1) := by decide +kernel
theorem own_d3_1 : decode prog_34_method_8_code 1 = .ok (.invokevirtual 35, 3) := by decide +kernel
theorem own_d3_4 : decode prog_34_method_8_code 4 = .ok (.lconst 0, 1) := by decide +kernel
theorem own_d3_5 : decode prog_34_method_8_code 5 = .ok (.lcmp, 1) := by decide +kernel
theorem own_d3_6 : decode prog_34_method_8_code 6 = .ok (.ifCond .ge 7, 3) := by decide +kernel
theorem own_d3_9 : decode prog_34_method_8_code 9 = .ok (.iconst 1, 1) := by decide +kernel
theorem own_d3_10 : decode prog_34_method_8_code 10 = .ok (.goto 4, 3) := by decide +kernel
theorem own_d3_14 : decode prog_34_method_8_code 14 = .ok (.ireturn, 1) := by decide +kernel
theorem own_d3_13 : decode prog_34_method_8_code 13 = .ok (.iconst 0, 1) := by decide +kernel
theorem own_ef_own_rm3 (m : MethodId) (r0 : Addr) : entryFrame m #[(.ref r0)] 1 = mkF m 0 #[.val (.ref r0)] [] := by first | (simp [entryFrame, mkF, argsToLocals, Value.category]; done) | rfl
def own_Q_own_rm3 (Z : State) (r0 : Addr) (y : Int64) (h0 : Heap) (n0 : Nat) (v : Option Value) (h : Heap) : Prop := v = some (.int (own_b (decide (own_mix (y + (-7046029254386353131 : Int64)) < 0)))) ∧ Keep h0 h [r0] ∧ Fld Z h r0 "com/example/fillgauge/fillgauge/core/RandomStream" "state" "J" (.long (y + (-7046029254386353131 : Int64)))
set_option maxRecDepth 65536 in
set_option maxHeartbeats 40000000 in
theorem own_rm3 (l : Launch) (Z : State) (a0 : Array Value) (hw : ∀ d ∈ tables_1, d.before a0 Z = true) (ws : List Jvm.Cond) (r0 : Addr) (y : Int64) (h0 : Heap) (n0 : Nat)  (E : Exa Z h0 r0 "com/example/fillgauge/fillgauge/core/RandomStream") (F : Fld Z h0 r0 "com/example/fillgauge/fillgauge/core/RandomStream" "state" "J" (.long y)) (g : n0 ≤ r0) :
    own_Con l Z (⟨"com/example/fillgauge/fillgauge/core/RandomStream", "nextBoolean", "()Z"⟩ : MethodName) prog_34_method_8_code 1 (some .boolean) ws ({ frames := 2, cells := 0, slots := 0, locals := 25 } : Room) #[(.ref r0)] h0 n0 (own_Q_own_rm3 Z r0 y h0 n0) := by
  refine own_body (plainFor_of_name own_pn0) ?_
  intro p e s m below meth c T0 hx hZ hby hml hown hnm hret hlk Y0
  replace hown : s.vm.findClass "com/example/fillgauge/fillgauge/core/RandomStream" = some m.cls := hown
  replace hnm : meth.name = "nextBoolean" := hnm
  rw [own_ef_own_rm3 m r0]
  show own_Ends _ _ _ _ (T0.setTop (mkF m 0 #[.val (.ref r0)] []))
  refine own_st (fun t => XS.aloadN (own_here Y0) hx rfl (hb hby own_d3_0) rfl rfl) ?_
  show own_Ends _ _ _ _ (T0.setTop (mkF m 1 #[.val (.ref r0)] [(.ref r0)]))
  refine own_callV Y0 hx hZ (y := (⟨"com/example/fillgauge/fillgauge/core/RandomStream", "nextLong", "()J"⟩ : MethodName)) (z := (⟨"com/example/fillgauge/fillgauge/core/RandomStream", "nextLong", "()J"⟩ : MethodName)) hown (hw _ (List.mem_of_getElem? (i := 16) rfl)) (hw _ (List.mem_of_getElem? (i := 17) rfl)) (notFace_of_selects (args := #[]) (mvT hZ (hw _ (List.mem_of_getElem? (i := 19) rfl)))) (hw _ (List.mem_of_getElem? (i := 19) rfl)) (hw _ (List.mem_of_getElem? (i := 18) rfl)) (hw _ (List.mem_of_getElem? (i := 2) rfl)) (hw _ (List.mem_of_getElem? (i := 20) rfl)) (by decide) (a := r0) E (argsL := []) (rest := []) (own_rm4 l Z a0 hw [] r0 y h0 n0  E F g) (W := 0) (by decide) (by decide) (by decide) (by decide) rfl (by rw [hml]; rfl) (lenOf own_pd1 rfl) rfl (by show 2 * 0 + _ ≤ _; exact Nat.le_of_eq rfl) (hb hby own_d3_1) (fun T24 h26 v27 Y25 q28 => ?_)
  obtain ⟨rfl, K29, F30⟩ := q28
  show own_Ends _ _ _ _ (T24.setTop (mkF m 4 #[.val (.ref r0)] [(.long (own_mix (y + (-7046029254386353131 : Int64))))]))
  refine own_st (fun t => XS.lconst (own_here Y25) hx rfl (hb hby own_d3_4) ) ?_
  show own_Ends _ _ _ _ (T24.setTop (mkF m 5 #[.val (.ref r0)] [(.long (0 : Int64)), (.long (own_mix (y + (-7046029254386353131 : Int64))))]))
  refine own_st (fun t => XS.lcmp (own_here Y25) hx rfl (hb hby own_d3_5) rfl) ?_
  show own_Ends _ _ _ _ (T24.setTop (mkF m 6 #[.val (.ref r0)] [(.int (lcmpW (own_mix (y + (-7046029254386353131 : Int64))) (0 : Int64)))]))
  by_cases c6_31 : (own_mix (y + (-7046029254386353131 : Int64))) < (0 : Int64)
  ·
   refine own_st (fun t => XS.ifNo (own_here Y25) hx rfl (hb hby own_d3_6) rfl (XT.ll_ge_f c6_31)) ?_
   show own_Ends _ _ _ _ (T24.setTop (mkF m 9 #[.val (.ref r0)] []))
   refine own_st (fun t => XS.iconst (own_here Y25) hx rfl (hb hby own_d3_9) ) ?_
   show own_Ends _ _ _ _ (T24.setTop (mkF m 10 #[.val (.ref r0)] [(.int (1 : Int32))]))
   refine own_st (fun t => XS.goto (own_here Y25) hx rfl (pc0 := 10) (pc' := 14) rfl (hb hby own_d3_10) (by decide) (by decide)) ?_
   show own_Ends _ _ _ _ (T24.setTop (mkF m 14 #[.val (.ref r0)] [(.int (1 : Int32))]))
   have K32 : Keep h0 h26 [r0] := (Keep.refl h0 [r0]).trans K29 (allS (Or.inl (List.mem_of_getElem? (i := 0) rfl)) all0)
   refine own_retN Y25 hx hlk (t := .boolean) hret (by simp) (hb hby own_d3_14) (by decide) (by decide) ?_
   exact ⟨by simp [nar, own_b, c6_31], K32, F30⟩
  ·
   refine own_st (fun t => XS.ifYes (own_here Y25) hx rfl (pc0 := 6) (pc' := 13) rfl (hb hby own_d3_6) rfl (XT.ll_ge_t c6_31) (by decide) (by decide)) ?_
   show own_Ends _ _ _ _ (T24.setTop (mkF m 13 #[.val (.ref r0)] []))
   refine own_st (fun t => XS.iconst (own_here Y25) hx rfl (hb hby own_d3_13) ) ?_
   show own_Ends _ _ _ _ (T24.setTop (mkF m 14 #[.val (.ref r0)] [(.int (0 : Int32))]))
   have K33 : Keep h0 h26 [r0] := (Keep.refl h0 [r0]).trans K29 (allS (Or.inl (List.mem_of_getElem? (i := 0) rfl)) all0)
   refine own_retN Y25 hx hlk (t := .boolean) hret (by simp) (hb hby own_d3_14) (by decide) (by decide) ?_
   exact ⟨by simp [nar, own_b, c6_31], K33, F30⟩
theorem own_pn1 : plainName "com/example/fillgauge/fillgauge/core/RandomStreamNextBooleanPinLaw" = true := by first | (simp [plainName, overriddenIn]; done) | decide +kernel
theorem own_pd2 : parseMethodDescriptor "(J)V" = some ⟨[.long], none⟩ := by decide +kernel
theorem own_pd3 : parseMethodDescriptor "()Z" = some ⟨[], some .boolean⟩ := by decide +kernel
theorem own_ef_own_rm0 (m : MethodId) (x0 : Int64) : entryFrame m #[(.long x0)] maxLocals = mkF m 0 #[.val (.long x0), .second, .unset, .unset, .unset, .unset, .unset, .unset, .unset, .unset, .unset, .unset] [] := by first | (simp [entryFrame, mkF, argsToLocals, Value.category, maxLocals]; done) | rfl
def own_Q_own_rm0 (Z : State) (x0 : Int64) (h0 : Heap) (n0 : Nat) (v : Option Value) (h : Heap) : Prop := v = some (.int 1)
set_option maxRecDepth 65536 in
set_option maxHeartbeats 40000000 in
theorem own_rm0 (l : Launch) (Z : State) (a0 : Array Value) (hw : ∀ d ∈ tables_1, d.before a0 Z = true) (ws : List Jvm.Cond) (x0 : Int64)  (h0 : Heap) (n0 : Nat) (Z0 : n0 ≤ h0.size)  :
    own_Con l Z x code maxLocals ret ws room_1 #[(.long x0)] h0 n0 (own_Q_own_rm0 Z x0 h0 n0) := by
  refine own_body (plainFor_of_name own_pn1) ?_
  intro p e s m below meth c T0 hx hZ hby hml hown hnm hret hlk Y0
  replace hown : s.vm.findClass "com/example/fillgauge/fillgauge/core/RandomStreamNextBooleanPinLaw" = some m.cls := hown
  replace hml : c.maxLocals = 12 := hml
  replace hret : meth.sig.returnType = some .boolean := hret
  rw [own_ef_own_rm0 m x0]
  show own_Ends _ _ _ _ (T0.setTop (mkF m 0 #[.val (.long x0), .second, .unset, .unset, .unset, .unset, .unset, .unset, .unset, .unset, .unset, .unset] []))
  refine own_new Y0 hx hZ hown (hw _ (List.mem_of_getElem? (i := 0) rfl)) (hw _ (List.mem_of_getElem? (i := 1) rfl)) (hw _ (List.mem_of_getElem? (i := 2) rfl)) rfl (hb hby at_0) (by decide) (by decide) (fun T34 h36 b40 eb41 Y35 E37 X38 D39 => ?_)
  have g42 : n0 ≤ b40 := by rw [eb41]; exact Z0
  have F43 : Fld Z h36 b40 "com/example/fillgauge/fillgauge/core/RandomStream" "state" "J" (.long (0 : Int64)) := D39 _ _ _ .long (Or.inl (hw _ (List.mem_of_getElem? (i := 10) rfl))) (by decide)
  show own_Ends _ _ _ _ (T34.setTop (mkF m 3 #[.val (.long x0), .second, .unset, .unset, .unset, .unset, .unset, .unset, .unset, .unset, .unset, .unset] [(.ref b40)]))
  refine own_st (fun t => XS.dup (own_here Y35) hx rfl (hb hby at_3) rfl rfl) ?_
  show own_Ends _ _ _ _ (T34.setTop (mkF m 4 #[.val (.long x0), .second, .unset, .unset, .unset, .unset, .unset, .unset, .unset, .unset, .unset, .unset] [(.ref b40), (.ref b40)]))
  refine own_st (fun t => XS.lloadN (own_here Y35) hx rfl (hb hby at_4) rfl) ?_
  show own_Ends _ _ _ _ (T34.setTop (mkF m 5 #[.val (.long x0), .second, .unset, .unset, .unset, .unset, .unset, .unset, .unset, .unset, .unset, .unset] [(.long x0), (.ref b40), (.ref b40)]))
  refine own_callN Y35 hx hZ (y := (⟨"com/example/fillgauge/fillgauge/core/RandomStream", "<init>", "(J)V"⟩ : MethodName)) rfl hown (hw _ (List.mem_of_getElem? (i := 3) rfl)) (hw _ (List.mem_of_getElem? (i := 4) rfl)) (hw _ (List.mem_of_getElem? (i := 2) rfl)) (hw _ (List.mem_of_getElem? (i := 5) rfl)) (by decide) (a := b40) (argsL := [(.long x0)]) (rest := [(.ref b40)]) (own_rm1 l Z a0 hw [] b40 x0  h36 n0  X38 F43 g42) (W := 1) (by decide) (by decide) (by decide) (by decide) rfl (by rw [hml]; rfl) (lenOf own_pd2 rfl) rfl (by show 2 * 0 + _ ≤ _; exact Nat.le_of_eq rfl) (hb hby at_5) (fun T44 h46 v47 Y45 q48 => ?_)
  obtain ⟨rfl, K49, F50⟩ := q48
  show own_Ends _ _ _ _ (T44.setTop (mkF m 8 #[.val (.long x0), .second, .unset, .unset, .unset, .unset, .unset, .unset, .unset, .unset, .unset, .unset] [(.ref b40)]))
  refine own_st (fun t => XS.astoreN (own_here Y45) hx rfl (hb hby at_8) rfl rfl (l' := #[.val (.long x0), .second, .val (.ref b40), .unset, .unset, .unset, .unset, .unset, .unset, .unset, .unset, .unset]) rfl) ?_
  show own_Ends _ _ _ _ (T44.setTop (mkF m 9 #[.val (.long x0), .second, .val (.ref b40), .unset, .unset, .unset, .unset, .unset, .unset, .unset, .unset, .unset] []))
  refine own_new Y45 hx hZ hown (hw _ (List.mem_of_getElem? (i := 0) rfl)) (hw _ (List.mem_of_getElem? (i := 1) rfl)) (hw _ (List.mem_of_getElem? (i := 2) rfl)) rfl (hb hby at_9) (by decide) (by decide) (fun T51 h53 b57 eb58 Y52 E54 X55 D56 => ?_)
  have f59 : Exa Z h46 b40 "com/example/fillgauge/fillgauge/core/RandomStream" := X38.keep K49
  have ne60 : b40 ≠ b57 := Nat.ne_of_lt (by rw [eb58]; exact f59.lt)
  have z62 : n0 ≤ h36.size := Nat.le_trans Z0 E37.1
  have z63 : n0 ≤ h46.size := Nat.le_trans z62 K49.1
  have g61 : n0 ≤ b57 := by rw [eb58]; exact z63
  have F64 : Fld Z h53 b57 "com/example/fillgauge/fillgauge/core/RandomStream" "state" "J" (.long (0 : Int64)) := D56 _ _ _ .long (Or.inl (hw _ (List.mem_of_getElem? (i := 10) rfl))) (by decide)
  show own_Ends _ _ _ _ (T51.setTop (mkF m 12 #[.val (.long x0), .second, .val (.ref b40), .unset, .unset, .unset, .unset, .unset, .unset, .unset, .unset, .unset] [(.ref b57)]))
  refine own_st (fun t => XS.dup (own_here Y52) hx rfl (hb hby at_12) rfl rfl) ?_
  show own_Ends _ _ _ _ (T51.setTop (mkF m 13 #[.val (.long x0), .second, .val (.ref b40), .unset, .unset, .unset, .unset, .unset, .unset, .unset, .unset, .unset] [(.ref b57), (.ref b57)]))
  refine own_st (fun t => XS.lloadN (own_here Y52) hx rfl (hb hby at_13) rfl) ?_
  show own_Ends _ _ _ _ (T51.setTop (mkF m 14 #[.val (.long x0), .second, .val (.ref b40), .unset, .unset, .unset, .unset, .unset, .unset, .unset, .unset, .unset] [(.long x0), (.ref b57), (.ref b57)]))
  refine own_callN Y52 hx hZ (y := (⟨"com/example/fillgauge/fillgauge/core/RandomStream", "<init>", "(J)V"⟩ : MethodName)) rfl hown (hw _ (List.mem_of_getElem? (i := 3) rfl)) (hw _ (List.mem_of_getElem? (i := 4) rfl)) (hw _ (List.mem_of_getElem? (i := 2) rfl)) (hw _ (List.mem_of_getElem? (i := 5) rfl)) (by decide) (a := b57) (argsL := [(.long x0)]) (rest := [(.ref b57)]) (own_rm1 l Z a0 hw [] b57 x0  h53 n0  X55 F64 g61) (W := 1) (by decide) (by decide) (by decide) (by decide) rfl (by rw [hml]; rfl) (lenOf own_pd2 rfl) rfl (by show 2 * 0 + _ ≤ _; exact Nat.le_of_eq rfl) (hb hby at_14) (fun T65 h67 v68 Y66 q69 => ?_)
  obtain ⟨rfl, K70, F71⟩ := q69
  show own_Ends _ _ _ _ (T65.setTop (mkF m 17 #[.val (.long x0), .second, .val (.ref b40), .unset, .unset, .unset, .unset, .unset, .unset, .unset, .unset, .unset] [(.ref b57)]))
  refine own_st (fun t => XS.astoreN (own_here Y66) hx rfl (hb hby at_17) rfl rfl (l' := #[.val (.long x0), .second, .val (.ref b40), .val (.ref b57), .unset, .unset, .unset, .unset, .unset, .unset, .unset, .unset]) rfl) ?_
  show own_Ends _ _ _ _ (T65.setTop (mkF m 18 #[.val (.long x0), .second, .val (.ref b40), .val (.ref b57), .unset, .unset, .unset, .unset, .unset, .unset, .unset, .unset] []))
  refine own_st (fun t => XS.aloadN (own_here Y66) hx rfl (hb hby at_18) rfl rfl) ?_
  show own_Ends _ _ _ _ (T65.setTop (mkF m 19 #[.val (.long x0), .second, .val (.ref b40), .val (.ref b57), .unset, .unset, .unset, .unset, .unset, .unset, .unset, .unset] [(.ref b40)]))
  have f72 : Exa Z h53 b40 "com/example/fillgauge/fillgauge/core/RandomStream" := f59.ext E54
  have f73 : Exa Z h67 b40 "com/example/fillgauge/fillgauge/core/RandomStream" := f72.keep K70
  have f74 : Fld Z h53 b40 "com/example/fillgauge/fillgauge/core/RandomStream" "state" "J" (.long x0) := F50.ext E54
  have f75 : Fld Z h67 b40 "com/example/fillgauge/fillgauge/core/RandomStream" "state" "J" (.long x0) := f74.keep K70 (ninS ne60 nin0)
  refine own_callV Y66 hx hZ (y := (⟨"com/example/fillgauge/fillgauge/core/RandomStream", "nextBoolean", "()Z"⟩ : MethodName)) (z := (⟨"com/example/fillgauge/fillgauge/core/RandomStream", "nextBoolean", "()Z"⟩ : MethodName)) hown (hw _ (List.mem_of_getElem? (i := 11) rfl)) (hw _ (List.mem_of_getElem? (i := 12) rfl)) (notFace_of_selects (args := #[]) (mvT hZ (hw _ (List.mem_of_getElem? (i := 14) rfl)))) (hw _ (List.mem_of_getElem? (i := 14) rfl)) (hw _ (List.mem_of_getElem? (i := 13) rfl)) (hw _ (List.mem_of_getElem? (i := 2) rfl)) (hw _ (List.mem_of_getElem? (i := 15) rfl)) (by decide) (a := b40) f73 (argsL := []) (rest := []) (own_rm3 l Z a0 hw [] b40 x0 h67 n0  f73 f75 g42) (W := 0) (by decide) (by decide) (by decide) (by decide) rfl (by rw [hml]; rfl) (lenOf own_pd3 rfl) rfl (by show 2 * 0 + _ ≤ _; exact Nat.le_of_eq rfl) (hb hby at_19) (fun T76 h78 v79 Y77 q80 => ?_)
  obtain ⟨rfl, K81, F82⟩ := q80
  show own_Ends _ _ _ _ (T76.setTop (mkF m 22 #[.val (.long x0), .second, .val (.ref b40), .val (.ref b57), .unset, .unset, .unset, .unset, .unset, .unset, .unset, .unset] [(.int (own_b (decide (own_mix (x0 + (-7046029254386353131 : Int64)) < 0))))]))
  refine own_st (fun t => XS.istore (own_here Y77) hx rfl (hb hby at_22) rfl (l' := #[.val (.long x0), .second, .val (.ref b40), .val (.ref b57), .val (.int (own_b (decide (own_mix (x0 + (-7046029254386353131 : Int64)) < 0)))), .unset, .unset, .unset, .unset, .unset, .unset, .unset]) rfl) ?_
  show own_Ends _ _ _ _ (T76.setTop (mkF m 24 #[.val (.long x0), .second, .val (.ref b40), .val (.ref b57), .val (.int (own_b (decide (own_mix (x0 + (-7046029254386353131 : Int64)) < 0)))), .unset, .unset, .unset, .unset, .unset, .unset, .unset] []))
  refine own_st (fun t => XS.aloadN (own_here Y77) hx rfl (hb hby at_24) rfl rfl) ?_
  show own_Ends _ _ _ _ (T76.setTop (mkF m 25 #[.val (.long x0), .second, .val (.ref b40), .val (.ref b57), .val (.int (own_b (decide (own_mix (x0 + (-7046029254386353131 : Int64)) < 0)))), .unset, .unset, .unset, .unset, .unset, .unset, .unset] [(.ref b57)]))
  have f83 : Exa Z h67 b57 "com/example/fillgauge/fillgauge/core/RandomStream" := X55.keep K70
  have f84 : Exa Z h78 b57 "com/example/fillgauge/fillgauge/core/RandomStream" := f83.keep K81
  have f85 : Fld Z h78 b57 "com/example/fillgauge/fillgauge/core/RandomStream" "state" "J" (.long x0) := F71.keep K81 (ninS (Ne.symm ne60) nin0)
  refine own_callV Y77 hx hZ (y := (⟨"com/example/fillgauge/fillgauge/core/RandomStream", "nextLong", "()J"⟩ : MethodName)) (z := (⟨"com/example/fillgauge/fillgauge/core/RandomStream", "nextLong", "()J"⟩ : MethodName)) hown (hw _ (List.mem_of_getElem? (i := 27) rfl)) (hw _ (List.mem_of_getElem? (i := 17) rfl)) (notFace_of_selects (args := #[]) (mvT hZ (hw _ (List.mem_of_getElem? (i := 19) rfl)))) (hw _ (List.mem_of_getElem? (i := 19) rfl)) (hw _ (List.mem_of_getElem? (i := 18) rfl)) (hw _ (List.mem_of_getElem? (i := 2) rfl)) (hw _ (List.mem_of_getElem? (i := 20) rfl)) (by decide) (a := b57) f84 (argsL := []) (rest := []) (own_rm4 l Z a0 hw [] b57 x0 h78 n0  f84 f85 g61) (W := 0) (by decide) (by decide) (by decide) (by decide) rfl (by rw [hml]; rfl) (lenOf own_pd1 rfl) rfl (by show 2 * 0 + _ ≤ _; exact Nat.le_of_eq rfl) (hb hby at_25) (fun T86 h88 v89 Y87 q90 => ?_)
  obtain ⟨rfl, K91, F92⟩ := q90
  show own_Ends _ _ _ _ (T86.setTop (mkF m 28 #[.val (.long x0), .second, .val (.ref b40), .val (.ref b57), .val (.int (own_b (decide (own_mix (x0 + (-7046029254386353131 : Int64)) < 0)))), .unset, .unset, .unset, .unset, .unset, .unset, .unset] [(.long (own_mix (x0 + (-7046029254386353131 : Int64))))]))
  refine own_st (fun t => XS.lstore (own_here Y87) hx rfl (hb hby at_28) rfl (l' := #[.val (.long x0), .second, .val (.ref b40), .val (.ref b57), .val (.int (own_b (decide (own_mix (x0 + (-7046029254386353131 : Int64)) < 0)))), .val (.long (own_mix (x0 + (-7046029254386353131 : Int64)))), .second, .unset, .unset, .unset, .unset, .unset]) rfl) ?_
  show own_Ends _ _ _ _ (T86.setTop (mkF m 30 #[.val (.long x0), .second, .val (.ref b40), .val (.ref b57), .val (.int (own_b (decide (own_mix (x0 + (-7046029254386353131 : Int64)) < 0)))), .val (.long (own_mix (x0 + (-7046029254386353131 : Int64)))), .second, .unset, .unset, .unset, .unset, .unset] []))
  refine own_st (fun t => XS.lload (own_here Y87) hx rfl (hb hby at_30) rfl) ?_
  show own_Ends _ _ _ _ (T86.setTop (mkF m 32 #[.val (.long x0), .second, .val (.ref b40), .val (.ref b57), .val (.int (own_b (decide (own_mix (x0 + (-7046029254386353131 : Int64)) < 0)))), .val (.long (own_mix (x0 + (-7046029254386353131 : Int64)))), .second, .unset, .unset, .unset, .unset, .unset] [(.long (own_mix (x0 + (-7046029254386353131 : Int64))))]))
  refine own_st (fun t => XS.lconst (own_here Y87) hx rfl (hb hby at_32) ) ?_
  show own_Ends _ _ _ _ (T86.setTop (mkF m 33 #[.val (.long x0), .second, .val (.ref b40), .val (.ref b57), .val (.int (own_b (decide (own_mix (x0 + (-7046029254386353131 : Int64)) < 0)))), .val (.long (own_mix (x0 + (-7046029254386353131 : Int64)))), .second, .unset, .unset, .unset, .unset, .unset] [(.long (0 : Int64)), (.long (own_mix (x0 + (-7046029254386353131 : Int64))))]))
  refine own_st (fun t => XS.lcmp (own_here Y87) hx rfl (hb hby at_33) rfl) ?_
  show own_Ends _ _ _ _ (T86.setTop (mkF m 34 #[.val (.long x0), .second, .val (.ref b40), .val (.ref b57), .val (.int (own_b (decide (own_mix (x0 + (-7046029254386353131 : Int64)) < 0)))), .val (.long (own_mix (x0 + (-7046029254386353131 : Int64)))), .second, .unset, .unset, .unset, .unset, .unset] [(.int (lcmpW (own_mix (x0 + (-7046029254386353131 : Int64))) (0 : Int64)))]))
  have hJ93 : ∀ (T94 : State)  (v : Int32) (Y95 : own_S p l e room_1 s m #[(.long x0)] below meth c n0 T94 h88 2 2)  (hv : v = (own_b (decide (own_mix (x0 + (-7046029254386353131 : Int64)) < 0)))), own_Ends p.tables e below (own_P s n0 (own_Q_own_rm0 Z x0 h0 n0) room_1.cells room_1.slots) (T94.setTop (mkF m 42 #[.val (.long x0), .second, .val (.ref b40), .val (.ref b57), .val (.int (own_b (decide (own_mix (x0 + (-7046029254386353131 : Int64)) < 0)))), .val (.long (own_mix (x0 + (-7046029254386353131 : Int64)))), .second, .unset, .unset, .unset, .unset, .unset] [(.int v)])) := by
   intro T94  v Y95  hv
   refine own_st (fun t => XS.istore (own_here Y95) hx rfl (hb hby at_42) rfl (l' := #[.val (.long x0), .second, .val (.ref b40), .val (.ref b57), .val (.int (own_b (decide (own_mix (x0 + (-7046029254386353131 : Int64)) < 0)))), .val (.long (own_mix (x0 + (-7046029254386353131 : Int64)))), .second, .val (.int v), .unset, .unset, .unset, .unset]) rfl) ?_
   show own_Ends _ _ _ _ (T94.setTop (mkF m 44 #[.val (.long x0), .second, .val (.ref b40), .val (.ref b57), .val (.int (own_b (decide (own_mix (x0 + (-7046029254386353131 : Int64)) < 0)))), .val (.long (own_mix (x0 + (-7046029254386353131 : Int64)))), .second, .val (.int v), .unset, .unset, .unset, .unset] []))
   refine own_st (fun t => XS.iload (own_here Y95) hx rfl (hb hby at_44) rfl) ?_
   show own_Ends _ _ _ _ (T94.setTop (mkF m 46 #[.val (.long x0), .second, .val (.ref b40), .val (.ref b57), .val (.int (own_b (decide (own_mix (x0 + (-7046029254386353131 : Int64)) < 0)))), .val (.long (own_mix (x0 + (-7046029254386353131 : Int64)))), .second, .val (.int v), .unset, .unset, .unset, .unset] [(.int (own_b (decide (own_mix (x0 + (-7046029254386353131 : Int64)) < 0))))]))
   refine own_st (fun t => XS.iload (own_here Y95) hx rfl (hb hby at_46) rfl) ?_
   show own_Ends _ _ _ _ (T94.setTop (mkF m 48 #[.val (.long x0), .second, .val (.ref b40), .val (.ref b57), .val (.int (own_b (decide (own_mix (x0 + (-7046029254386353131 : Int64)) < 0)))), .val (.long (own_mix (x0 + (-7046029254386353131 : Int64)))), .second, .val (.int v), .unset, .unset, .unset, .unset] [(.int v), (.int (own_b (decide (own_mix (x0 + (-7046029254386353131 : Int64)) < 0))))]))
   refine own_st (fun t => XS.icmpYes (own_here Y95) hx rfl (pc0 := 48) (pc' := 53) rfl (hb hby at_48) rfl (XT.ii_eq_t hv.symm) (by decide) (by decide)) ?_
   show own_Ends _ _ _ _ (T94.setTop (mkF m 53 #[.val (.long x0), .second, .val (.ref b40), .val (.ref b57), .val (.int (own_b (decide (own_mix (x0 + (-7046029254386353131 : Int64)) < 0)))), .val (.long (own_mix (x0 + (-7046029254386353131 : Int64)))), .second, .val (.int v), .unset, .unset, .unset, .unset] []))
   refine own_st (fun t => XS.aloadN (own_here Y95) hx rfl (hb hby at_53) rfl rfl) ?_
   show own_Ends _ _ _ _ (T94.setTop (mkF m 54 #[.val (.long x0), .second, .val (.ref b40), .val (.ref b57), .val (.int (own_b (decide (own_mix (x0 + (-7046029254386353131 : Int64)) < 0)))), .val (.long (own_mix (x0 + (-7046029254386353131 : Int64)))), .second, .val (.int v), .unset, .unset, .unset, .unset] [(.ref b40)]))
   have f96 : Exa Z h78 b40 "com/example/fillgauge/fillgauge/core/RandomStream" := f73.keep K81
   have f97 : Exa Z h88 b40 "com/example/fillgauge/fillgauge/core/RandomStream" := f96.keep K91
   have f98 : Fld Z h88 b40 "com/example/fillgauge/fillgauge/core/RandomStream" "state" "J" (.long (x0 + (-7046029254386353131 : Int64))) := F82.keep K91 (ninS ne60 nin0)
   refine own_callV Y95 hx hZ (y := (⟨"com/example/fillgauge/fillgauge/core/RandomStream", "nextLong", "()J"⟩ : MethodName)) (z := (⟨"com/example/fillgauge/fillgauge/core/RandomStream", "nextLong", "()J"⟩ : MethodName)) hown (hw _ (List.mem_of_getElem? (i := 27) rfl)) (hw _ (List.mem_of_getElem? (i := 17) rfl)) (notFace_of_selects (args := #[]) (mvT hZ (hw _ (List.mem_of_getElem? (i := 19) rfl)))) (hw _ (List.mem_of_getElem? (i := 19) rfl)) (hw _ (List.mem_of_getElem? (i := 18) rfl)) (hw _ (List.mem_of_getElem? (i := 2) rfl)) (hw _ (List.mem_of_getElem? (i := 20) rfl)) (by decide) (a := b40) f97 (argsL := []) (rest := []) (own_rm4 l Z a0 hw [] b40 (x0 + (-7046029254386353131 : Int64)) h88 n0  f97 f98 g42) (W := 0) (by decide) (by decide) (by decide) (by decide) rfl (by rw [hml]; rfl) (lenOf own_pd1 rfl) rfl (by show 2 * 0 + _ ≤ _; exact Nat.le_of_eq rfl) (hb hby at_54) (fun T99 h101 v102 Y100 q103 => ?_)
   obtain ⟨rfl, K104, F105⟩ := q103
   show own_Ends _ _ _ _ (T99.setTop (mkF m 57 #[.val (.long x0), .second, .val (.ref b40), .val (.ref b57), .val (.int (own_b (decide (own_mix (x0 + (-7046029254386353131 : Int64)) < 0)))), .val (.long (own_mix (x0 + (-7046029254386353131 : Int64)))), .second, .val (.int v), .unset, .unset, .unset, .unset] [(.long (own_mix ((x0 + (-7046029254386353131 : Int64)) + (-7046029254386353131 : Int64))))]))
   refine own_st (fun t => XS.lstore (own_here Y100) hx rfl (hb hby at_57) rfl (l' := #[.val (.long x0), .second, .val (.ref b40), .val (.ref b57), .val (.int (own_b (decide (own_mix (x0 + (-7046029254386353131 : Int64)) < 0)))), .val (.long (own_mix (x0 + (-7046029254386353131 : Int64)))), .second, .val (.int v), .val (.long (own_mix ((x0 + (-7046029254386353131 : Int64)) + (-7046029254386353131 : Int64)))), .second, .unset, .unset]) rfl) ?_
   show own_Ends _ _ _ _ (T99.setTop (mkF m 59 #[.val (.long x0), .second, .val (.ref b40), .val (.ref b57), .val (.int (own_b (decide (own_mix (x0 + (-7046029254386353131 : Int64)) < 0)))), .val (.long (own_mix (x0 + (-7046029254386353131 : Int64)))), .second, .val (.int v), .val (.long (own_mix ((x0 + (-7046029254386353131 : Int64)) + (-7046029254386353131 : Int64)))), .second, .unset, .unset] []))
   refine own_st (fun t => XS.aloadN (own_here Y100) hx rfl (hb hby at_59) rfl rfl) ?_
   show own_Ends _ _ _ _ (T99.setTop (mkF m 60 #[.val (.long x0), .second, .val (.ref b40), .val (.ref b57), .val (.int (own_b (decide (own_mix (x0 + (-7046029254386353131 : Int64)) < 0)))), .val (.long (own_mix (x0 + (-7046029254386353131 : Int64)))), .second, .val (.int v), .val (.long (own_mix ((x0 + (-7046029254386353131 : Int64)) + (-7046029254386353131 : Int64)))), .second, .unset, .unset] [(.ref b57)]))
   have f106 : Exa Z h88 b57 "com/example/fillgauge/fillgauge/core/RandomStream" := f84.keep K91
   have f107 : Exa Z h101 b57 "com/example/fillgauge/fillgauge/core/RandomStream" := f106.keep K104
   have f108 : Fld Z h101 b57 "com/example/fillgauge/fillgauge/core/RandomStream" "state" "J" (.long (x0 + (-7046029254386353131 : Int64))) := F92.keep K104 (ninS (Ne.symm ne60) nin0)
   refine own_callV Y100 hx hZ (y := (⟨"com/example/fillgauge/fillgauge/core/RandomStream", "nextLong", "()J"⟩ : MethodName)) (z := (⟨"com/example/fillgauge/fillgauge/core/RandomStream", "nextLong", "()J"⟩ : MethodName)) hown (hw _ (List.mem_of_getElem? (i := 27) rfl)) (hw _ (List.mem_of_getElem? (i := 17) rfl)) (notFace_of_selects (args := #[]) (mvT hZ (hw _ (List.mem_of_getElem? (i := 19) rfl)))) (hw _ (List.mem_of_getElem? (i := 19) rfl)) (hw _ (List.mem_of_getElem? (i := 18) rfl)) (hw _ (List.mem_of_getElem? (i := 2) rfl)) (hw _ (List.mem_of_getElem? (i := 20) rfl)) (by decide) (a := b57) f107 (argsL := []) (rest := []) (own_rm4 l Z a0 hw [] b57 (x0 + (-7046029254386353131 : Int64)) h101 n0  f107 f108 g61) (W := 0) (by decide) (by decide) (by decide) (by decide) rfl (by rw [hml]; rfl) (lenOf own_pd1 rfl) rfl (by show 2 * 0 + _ ≤ _; exact Nat.le_of_eq rfl) (hb hby at_60) (fun T109 h111 v112 Y110 q113 => ?_)
   obtain ⟨rfl, K114, F115⟩ := q113
   show own_Ends _ _ _ _ (T109.setTop (mkF m 63 #[.val (.long x0), .second, .val (.ref b40), .val (.ref b57), .val (.int (own_b (decide (own_mix (x0 + (-7046029254386353131 : Int64)) < 0)))), .val (.long (own_mix (x0 + (-7046029254386353131 : Int64)))), .second, .val (.int v), .val (.long (own_mix ((x0 + (-7046029254386353131 : Int64)) + (-7046029254386353131 : Int64)))), .second, .unset, .unset] [(.long (own_mix ((x0 + (-7046029254386353131 : Int64)) + (-7046029254386353131 : Int64))))]))
   refine own_st (fun t => XS.lstore (own_here Y110) hx rfl (hb hby at_63) rfl (l' := #[.val (.long x0), .second, .val (.ref b40), .val (.ref b57), .val (.int (own_b (decide (own_mix (x0 + (-7046029254386353131 : Int64)) < 0)))), .val (.long (own_mix (x0 + (-7046029254386353131 : Int64)))), .second, .val (.int v), .val (.long (own_mix ((x0 + (-7046029254386353131 : Int64)) + (-7046029254386353131 : Int64)))), .second, .val (.long (own_mix ((x0 + (-7046029254386353131 : Int64)) + (-7046029254386353131 : Int64)))), .second]) rfl) ?_
   show own_Ends _ _ _ _ (T109.setTop (mkF m 65 #[.val (.long x0), .second, .val (.ref b40), .val (.ref b57), .val (.int (own_b (decide (own_mix (x0 + (-7046029254386353131 : Int64)) < 0)))), .val (.long (own_mix (x0 + (-7046029254386353131 : Int64)))), .second, .val (.int v), .val (.long (own_mix ((x0 + (-7046029254386353131 : Int64)) + (-7046029254386353131 : Int64)))), .second, .val (.long (own_mix ((x0 + (-7046029254386353131 : Int64)) + (-7046029254386353131 : Int64)))), .second] []))
   refine own_st (fun t => XS.lload (own_here Y110) hx rfl (hb hby at_65) rfl) ?_
   show own_Ends _ _ _ _ (T109.setTop (mkF m 67 #[.val (.long x0), .second, .val (.ref b40), .val (.ref b57), .val (.int (own_b (decide (own_mix (x0 + (-7046029254386353131 : Int64)) < 0)))), .val (.long (own_mix (x0 + (-7046029254386353131 : Int64)))), .second, .val (.int v), .val (.long (own_mix ((x0 + (-7046029254386353131 : Int64)) + (-7046029254386353131 : Int64)))), .second, .val (.long (own_mix ((x0 + (-7046029254386353131 : Int64)) + (-7046029254386353131 : Int64)))), .second] [(.long (own_mix ((x0 + (-7046029254386353131 : Int64)) + (-7046029254386353131 : Int64))))]))
   refine own_st (fun t => XS.lload (own_here Y110) hx rfl (hb hby at_67) rfl) ?_
   show own_Ends _ _ _ _ (T109.setTop (mkF m 69 #[.val (.long x0), .second, .val (.ref b40), .val (.ref b57), .val (.int (own_b (decide (own_mix (x0 + (-7046029254386353131 : Int64)) < 0)))), .val (.long (own_mix (x0 + (-7046029254386353131 : Int64)))), .second, .val (.int v), .val (.long (own_mix ((x0 + (-7046029254386353131 : Int64)) + (-7046029254386353131 : Int64)))), .second, .val (.long (own_mix ((x0 + (-7046029254386353131 : Int64)) + (-7046029254386353131 : Int64)))), .second] [(.long (own_mix ((x0 + (-7046029254386353131 : Int64)) + (-7046029254386353131 : Int64)))), (.long (own_mix ((x0 + (-7046029254386353131 : Int64)) + (-7046029254386353131 : Int64))))]))
   refine own_st (fun t => XS.lcmp (own_here Y110) hx rfl (hb hby at_69) rfl) ?_
   show own_Ends _ _ _ _ (T109.setTop (mkF m 70 #[.val (.long x0), .second, .val (.ref b40), .val (.ref b57), .val (.int (own_b (decide (own_mix (x0 + (-7046029254386353131 : Int64)) < 0)))), .val (.long (own_mix (x0 + (-7046029254386353131 : Int64)))), .second, .val (.int v), .val (.long (own_mix ((x0 + (-7046029254386353131 : Int64)) + (-7046029254386353131 : Int64)))), .second, .val (.long (own_mix ((x0 + (-7046029254386353131 : Int64)) + (-7046029254386353131 : Int64)))), .second] [(.int (lcmpW (own_mix ((x0 + (-7046029254386353131 : Int64)) + (-7046029254386353131 : Int64))) (own_mix ((x0 + (-7046029254386353131 : Int64)) + (-7046029254386353131 : Int64)))))]))
   refine own_st (fun t => XS.ifNo (own_here Y110) hx rfl (hb hby at_70) rfl (XT.ll_ne_f rfl)) ?_
   show own_Ends _ _ _ _ (T109.setTop (mkF m 73 #[.val (.long x0), .second, .val (.ref b40), .val (.ref b57), .val (.int (own_b (decide (own_mix (x0 + (-7046029254386353131 : Int64)) < 0)))), .val (.long (own_mix (x0 + (-7046029254386353131 : Int64)))), .second, .val (.int v), .val (.long (own_mix ((x0 + (-7046029254386353131 : Int64)) + (-7046029254386353131 : Int64)))), .second, .val (.long (own_mix ((x0 + (-7046029254386353131 : Int64)) + (-7046029254386353131 : Int64)))), .second] []))
   refine own_st (fun t => XS.iconst (own_here Y110) hx rfl (hb hby at_73) ) ?_
   show own_Ends _ _ _ _ (T109.setTop (mkF m 74 #[.val (.long x0), .second, .val (.ref b40), .val (.ref b57), .val (.int (own_b (decide (own_mix (x0 + (-7046029254386353131 : Int64)) < 0)))), .val (.long (own_mix (x0 + (-7046029254386353131 : Int64)))), .second, .val (.int v), .val (.long (own_mix ((x0 + (-7046029254386353131 : Int64)) + (-7046029254386353131 : Int64)))), .second, .val (.long (own_mix ((x0 + (-7046029254386353131 : Int64)) + (-7046029254386353131 : Int64)))), .second] [(.int (1 : Int32))]))
   refine own_st (fun t => XS.goto (own_here Y110) hx rfl (pc0 := 74) (pc' := 78) rfl (hb hby at_74) (by decide) (by decide)) ?_
   show own_Ends _ _ _ _ (T109.setTop (mkF m 78 #[.val (.long x0), .second, .val (.ref b40), .val (.ref b57), .val (.int (own_b (decide (own_mix (x0 + (-7046029254386353131 : Int64)) < 0)))), .val (.long (own_mix (x0 + (-7046029254386353131 : Int64)))), .second, .val (.int v), .val (.long (own_mix ((x0 + (-7046029254386353131 : Int64)) + (-7046029254386353131 : Int64)))), .second, .val (.long (own_mix ((x0 + (-7046029254386353131 : Int64)) + (-7046029254386353131 : Int64)))), .second] [(.int (1 : Int32))]))
   refine own_retN Y110 hx hlk (t := .boolean) hret (by simp) (hb hby at_78) (by decide) (by decide) ?_
   exact rfl
  by_cases c34_116 : (own_mix (x0 + (-7046029254386353131 : Int64))) < (0 : Int64)
  ·
   refine own_st (fun t => XS.ifNo (own_here Y87) hx rfl (hb hby at_34) rfl (XT.ll_ge_f c34_116)) ?_
   show own_Ends _ _ _ _ (T86.setTop (mkF m 37 #[.val (.long x0), .second, .val (.ref b40), .val (.ref b57), .val (.int (own_b (decide (own_mix (x0 + (-7046029254386353131 : Int64)) < 0)))), .val (.long (own_mix (x0 + (-7046029254386353131 : Int64)))), .second, .unset, .unset, .unset, .unset, .unset] []))
   refine own_st (fun t => XS.iconst (own_here Y87) hx rfl (hb hby at_37) ) ?_
   show own_Ends _ _ _ _ (T86.setTop (mkF m 38 #[.val (.long x0), .second, .val (.ref b40), .val (.ref b57), .val (.int (own_b (decide (own_mix (x0 + (-7046029254386353131 : Int64)) < 0)))), .val (.long (own_mix (x0 + (-7046029254386353131 : Int64)))), .second, .unset, .unset, .unset, .unset, .unset] [(.int (1 : Int32))]))
   refine own_st (fun t => XS.goto (own_here Y87) hx rfl (pc0 := 38) (pc' := 42) rfl (hb hby at_38) (by decide) (by decide)) ?_
   show own_Ends _ _ _ _ (T86.setTop (mkF m 42 #[.val (.long x0), .second, .val (.ref b40), .val (.ref b57), .val (.int (own_b (decide (own_mix (x0 + (-7046029254386353131 : Int64)) < 0)))), .val (.long (own_mix (x0 + (-7046029254386353131 : Int64)))), .second, .unset, .unset, .unset, .unset, .unset] [(.int (1 : Int32))]))
   exact hJ93 T86   ((1 : Int32)) Y87  (by simp [own_b, c34_116])
  ·
   refine own_st (fun t => XS.ifYes (own_here Y87) hx rfl (pc0 := 34) (pc' := 41) rfl (hb hby at_34) rfl (XT.ll_ge_t c34_116) (by decide) (by decide)) ?_
   show own_Ends _ _ _ _ (T86.setTop (mkF m 41 #[.val (.long x0), .second, .val (.ref b40), .val (.ref b57), .val (.int (own_b (decide (own_mix (x0 + (-7046029254386353131 : Int64)) < 0)))), .val (.long (own_mix (x0 + (-7046029254386353131 : Int64)))), .second, .unset, .unset, .unset, .unset, .unset] []))
   refine own_st (fun t => XS.iconst (own_here Y87) hx rfl (hb hby at_41) ) ?_
   show own_Ends _ _ _ _ (T86.setTop (mkF m 42 #[.val (.long x0), .second, .val (.ref b40), .val (.ref b57), .val (.int (own_b (decide (own_mix (x0 + (-7046029254386353131 : Int64)) < 0)))), .val (.long (own_mix (x0 + (-7046029254386353131 : Int64)))), .second, .unset, .unset, .unset, .unset, .unset] [(.int (0 : Int32))]))
   exact hJ93 T86   ((0 : Int32)) Y87  (by simp [own_b, c34_116])
set_option maxRecDepth 65536 in
set_option maxHeartbeats 40000000 in
theorem own_comes_1 {Post : Tables → Env → Array Value → State → Outcome → State → Prop} (hpost : ∀ tb e args s v u, (limb_1_1.after args s (.returned v) u = true ∧ limb_1_2.after args s (.returned v) u = true ∧ True) → FrameEnd s (.returned v) u (Jvm.fieldLocs frame_1_writes args s ++ Jvm.arrayLocs frame_1_arrays args s ++ Jvm.staticLocs frame_1_statics s) 16 128 → Post tb e args s (.returned v) u) :
    ArmFor flags0 classFile x code maxLocals ret World_1 tables_1 room_1 Calls_1 rest_1 Pre_1 Post := by
  intro l hfl _ _ p e ha hc hk s m args below hf hA hF happ hP
  obtain ⟨hcalls, hrest, hpre⟩ := hP
  obtain ⟨-, -, -, hnamed, -, -, -, hat⟩ := (Spec.applies_iff hf).mp happ
  obtain ⟨hg, hn⟩ := and_e (Cond.before_iff.mp (show (Jvm.Cond.and given_1 narrow_1).before args s = true from hpre))
  obtain ⟨g1, g2⟩ := and_e hg
  obtain ⟨w0, rfl⟩ : ∃ w0 : Value, args = #[w0] := by
    have hs : args.size = 1 := by simpa [Cond.value, given_1] using g1
    obtain ⟨L⟩ := args
    match L, hs with
    | [w0], _ => exact ⟨w0, rfl⟩
  have hw := fun d (hd : d ∈ tables_1) => atoms_spec (ws := Jvm.Cond.code x code maxLocals ret :: tables_1) hat d (List.mem_cons_of_mem _ hd)
  have hfit : Fit s := fun {y c} hc i hi => by
    obtain ⟨ha, rfl⟩ := Array.getElem?_eq_some_iff.mp hc
    have q := List.all_eq_true.mp ((Array.all_eq_true_iff_forall_mem.mp hF) _ (Array.getElem_mem ha)) i (List.mem_range.mpr hi)
    simpa [Array.getElem?_eq_getElem hi] using q
  obtain ⟨i0, ei0⟩ := isL_v g2
  obtain rfl : w0 = (.long i0) := Option.some.inj ei0
  obtain ⟨n, o, h1, h2, h3, _, L, rfl, ⟨N, rfl⟩, hq⟩ := own_rm0 l s _ hw tables_1 i0  s.heap s.heap.size (Nat.le_refl _)  p e ha hc hk s m _ below hf ((Spec.applies_iff_loose hf).mp happ).1 ⟨rfl, State.Warmed39.refl s, rfl⟩ trivial
  refine ⟨n, _, h1, h2, h3, hpost _ _ _ _ _ _ ⟨Cond.after_iff.mpr rfl, Cond.after_iff.mpr (eq_i res_at (Term.int_eval (1)) rfl), trivial⟩ ⟨hq.1, hq.2.1, (hq.2.2.sift fun y hy => Or.inr (N y hy)).mono (by decide) (by decide)⟩⟩
theorem main_1_1 : Claimed_1_1 := own_comes_1 fun _ _ _ _ _ _ h hF => ⟨h.1, hF⟩
theorem main_1_2 : Claimed_1_2 := own_comes_1 fun _ _ _ _ _ _ h hF => ⟨h.2.1, hF⟩
end Jvm.Pilot.@@N@@
namespace Jvm.Pilot.@@N@@
open Jvm Jvm.ClassFile Sem Op Lib Jvm.Free Jvm.Stand Jvm.Pilot.@@N@@.Jvm.D
/-! MADE BY PROGRAM (witnessworld.py) out of the Statement's table words and the real class files: 9 classes; the members and pool entries that the words name. The judged class is class 1, her method 1. -/
namespace start1
open Jvm.ClassFile
def u (s : String) : CpInfo := .utf8 (stringToUtf16 s)
/-- a pool by its gaps: so many unusable entries, then the entry; so many at the end -/
def gap : Nat → List CpInfo → List CpInfo
  | 0, r => r
  | n + 1, r => .unusable :: gap n r
def poolList (es : List (Nat × CpInfo)) (last : Nat) : List CpInfo := es.foldr (fun e r => gap e.1 (e.2 :: r)) (gap last [])
def pool (es : List (Nat × CpInfo)) (last : Nat) : Array CpInfo := ⟨poolList es last⟩
def fileOf (pool : Array CpInfo) (this : Nat) (attrs : Array Attribute := #[]) (ms : Array MethodInfo := #[]) (fl : Nat := 33) (sup : Nat := 0) (ifs : Array Nat := #[]) (fds : Array FieldInfo := #[]) : ClassFile where
  minorVersion := 0
  majorVersion := 65
  constantPool := pool
  accessFlags := fl
  thisClass := this
  superClass := sup
  interfaces := ifs
  fields := fds
  methods := ms
  attributes := attrs
def plain (name : String) (sup : Option ClassId) : Class where
  name := name
  kind := .ordinary
  loader := none
  accessFlags := 33
  super := sup
  interfaces := #[]
  cf := none
  fields := #[]
  methods := #[]
  instanceTypes := #[]
  staticTypes := #[]
  resolved := #[]
  callSites := []
  init := .initialized
  statics := none
  mirror := none

def pool0 : Array CpInfo := pool [(5, u "<init>"), (0, u "()V"), (1, .class_ 10), (1, u "java/lang/Object")] 113

def k0c0 : Code := { maxStack := 0, maxLocals := 1, code := object_method_1_code, exceptionTable := #[], attributes := #[] }
def k0m0 : Method := { name := "<init>", desc := "()V", sig := { parameters := [], returnType := none }, accessFlags := 1, code := some k0c0 }
/-- java/lang/Object -/
def k0 : Class := { plain "java/lang/Object" none with
  accessFlags := 33
  interfaces := #[]
  cf := some (fileOf pool0 8 #[] #[{ accessFlags := 1, nameIndex := 5, descriptorIndex := 6, attributes := #[] }] 33 0 #[] #[])
  fields := #[]
  methods := #[k0m0]
  instanceTypes := #[]
  staticTypes := #[]
  resolved := Array.replicate 124 none
  statics := none }

def pool1 : Array CpInfo := pool [(2, .class_ 4), (1, u "java/lang/Object"), (0, u "<init>"), (0, u "()V"), (0, .class_ 8), (0, u "com/example/fillgauge/fillgauge/core/RandomStream"), (0, .methodref 7 10), (0, .nameAndType 5 11), (0, u "(J)V"), (0, .methodref 7 13), (0, .nameAndType 14 15), (0, u "nextBoolean"), (0, u "()Z"), (0, .methodref 7 17), (0, .nameAndType 18 19), (0, u "nextLong"), (0, u "()J"), (0, .class_ 21), (0, u "com/example/fillgauge/fillgauge/core/RandomStreamNextBooleanPinLaw"), (2, u "law"), (0, u "(J)Z")] 3

def k1m0 : Method := { name := "<init>", desc := "()V", sig := { parameters := [], returnType := none }, accessFlags := 1, code := none }
def k1c1 : Code := { maxStack := 4, maxLocals := 12, code := code, exceptionTable := #[], attributes := #[] }
def k1m1 : Method := { name := "law", desc := "(J)Z", sig := { parameters := [.long], returnType := some .boolean }, accessFlags := 9, code := some k1c1 }
/-- com/example/fillgauge/fillgauge/core/RandomStreamNextBooleanPinLaw -/
def k1 : Class := { plain "com/example/fillgauge/fillgauge/core/RandomStreamNextBooleanPinLaw" (some 0) with
  accessFlags := 49
  interfaces := #[]
  cf := some (fileOf pool1 20 #[] #[{ accessFlags := 1, nameIndex := 5, descriptorIndex := 6, attributes := #[] }, { accessFlags := 9, nameIndex := 24, descriptorIndex := 25, attributes := #[] }] 49 2 #[] #[])
  fields := #[]
  methods := #[k1m0, k1m1]
  instanceTypes := #[]
  staticTypes := #[]
  resolved := Array.replicate 29 none
  statics := none }

def pool2 : Array CpInfo := pool [(1, .methodref 2 3), (0, .class_ 4), (0, .nameAndType 5 6), (0, u "java/lang/Object"), (0, u "<init>"), (0, u "()V"), (0, .fieldref 8 9), (0, .class_ 10), (0, .nameAndType 11 12), (0, u "com/example/fillgauge/fillgauge/core/RandomStream"), (0, u "state"), (0, u "J"), (0, .methodref 8 14), (0, .nameAndType 15 16), (0, u "mix"), (0, u "(J)J"), (4, .long 11400714819323198485), (3, u "(J)V"), (9, .methodref 8 36), (0, .nameAndType 37 38), (0, u "nextLong"), (0, u "()J"), (22, .long 13787848793156543929), (1, .long 10723151780598845931), (1, u "GOLDEN_GAMMA"), (1, u "DOUBLE_UNIT"), (0, u "D"), (13, u "nextBoolean"), (0, u "()Z")] 21

def k2c0 : Code := { maxStack := 3, maxLocals := 3, code := prog_34_method_1_code, exceptionTable := #[], attributes := #[] }
def k2m0 : Method := { name := "<init>", desc := "(J)V", sig := { parameters := [.long], returnType := none }, accessFlags := 1, code := some k2c0 }
def k2c1 : Code := { maxStack := 5, maxLocals := 1, code := prog_34_method_4_code, exceptionTable := #[], attributes := #[] }
def k2m1 : Method := { name := "nextLong", desc := "()J", sig := { parameters := [], returnType := some .long }, accessFlags := 1, code := some k2c1 }
def k2c2 : Code := { maxStack := 4, maxLocals := 1, code := prog_34_method_8_code, exceptionTable := #[], attributes := #[] }
def k2m2 : Method := { name := "nextBoolean", desc := "()Z", sig := { parameters := [], returnType := some .boolean }, accessFlags := 1, code := some k2c2 }
def k2c3 : Code := { maxStack := 5, maxLocals := 2, code := prog_34_method_11_code, exceptionTable := #[], attributes := #[] }
def k2m3 : Method := { name := "mix", desc := "(J)J", sig := { parameters := [.long], returnType := some .long }, accessFlags := 10, code := some k2c3 }
/-- com/example/fillgauge/fillgauge/core/RandomStream -/
def k2 : Class := { plain "com/example/fillgauge/fillgauge/core/RandomStream" (some 0) with
  accessFlags := 49
  interfaces := #[]
  cf := some (fileOf pool2 8 #[] #[{ accessFlags := 1, nameIndex := 5, descriptorIndex := 25, attributes := #[] }, { accessFlags := 1, nameIndex := 37, descriptorIndex := 38, attributes := #[] }, { accessFlags := 1, nameIndex := 82, descriptorIndex := 83, attributes := #[] }, { accessFlags := 10, nameIndex := 15, descriptorIndex := 16, attributes := #[] }] 49 2 #[] #[{ accessFlags := 26, nameIndex := 65, descriptorIndex := 12, attributes := #[] }, { accessFlags := 26, nameIndex := 67, descriptorIndex := 68, attributes := #[] }, { accessFlags := 2, nameIndex := 11, descriptorIndex := 12, attributes := #[] }])
  fields := #[{ name := "GOLDEN_GAMMA", type := .long, accessFlags := 26, slot := 0, constantValue := 0 }, { name := "DOUBLE_UNIT", type := .double, accessFlags := 26, slot := 1, constantValue := 0 }, { name := "state", type := .long, accessFlags := 2, slot := 0, constantValue := 0 }]
  methods := #[k2m0, k2m1, k2m2, k2m3]
  instanceTypes := #[.long]
  staticTypes := #[.long, .double]
  resolved := Array.replicate 105 none
  statics := none }

def pool3 : Array CpInfo := pool [(1, u "java/lang/Cloneable"), (0, .class_ 1), (0, u "java/lang/Object"), (0, .class_ 3)] 3

/-- java/lang/Cloneable -/
def k3 : Class := { plain "java/lang/Cloneable" (some 0) with
  accessFlags := 1537
  interfaces := #[]
  cf := some (fileOf pool3 2 #[] #[] 1537 4 #[] #[])
  fields := #[]
  methods := #[]
  instanceTypes := #[]
  staticTypes := #[]
  resolved := Array.replicate 8 none
  statics := none }

def pool4 : Array CpInfo := pool [(1, u "java/io/Serializable"), (0, .class_ 1), (0, u "java/lang/Object"), (0, .class_ 3)] 3

/-- java/io/Serializable -/
def k4 : Class := { plain "java/io/Serializable" (some 0) with
  accessFlags := 1537
  interfaces := #[]
  cf := some (fileOf pool4 2 #[] #[] 1537 4 #[] #[])
  fields := #[]
  methods := #[]
  instanceTypes := #[]
  staticTypes := #[]
  resolved := Array.replicate 8 none
  statics := none }

/-- the primitive byte -/
def k5 : Class := { plain "byte" none with kind := .primitive 'B', accessFlags := 0x411 }
/-- [B -/
def k6 : Class := { plain "[B" (some 0) with kind := .array 5 .byte, interfaces := #[3, 4], accessFlags := 1041 }

/-- the primitive int -/
def k7 : Class := { plain "int" none with kind := .primitive 'I', accessFlags := 0x411 }
/-- [I -/
def k8 : Class := { plain "[I" (some 0) with kind := .array 7 .int, interfaces := #[3, 4], accessFlags := 1041 }

def heap : Heap := #[]
def classes : Array Class := #[k0, k1, k2, k3, k4, k5, k6, k7, k8]
def interned : List (Array UInt16 × Addr) := []
def slotsUsed : Nat := 0
def theMethod : MethodId := ⟨1, 1⟩
def args0 : Array Value := #[.long 5]
def aboutOver (below : List Frame) : State where
  vm := { classes := classes, interned := interned.toArray }
  heap := heap
  slotsUsed := slotsUsed
  threads := #[{ frames := .invoking theMethod args0 :: below }]
def below0 : List Frame := [.native { method := ⟨0, 0⟩, args := #[] }]
def about1 : State := aboutOver below0
def p0 : Program := .bare "" "" ""
def e0 : Env := launch0.env 0 0 0
theorem w_frames : about1.frames = Frame.invoking theMethod args0 :: below0 := rfl
set_option maxRecDepth 65536 in
theorem w_args : argsFit about1.vm theMethod args0 = true := by decide +kernel
set_option maxRecDepth 65536 in
theorem w_heap : heapFits about1 = true := by decide +kernel
set_option maxRecDepth 65536 in
theorem w_runnable : about1.curStatus? = some .runnable := by decide +kernel
set_option maxRecDepth 65536 in
theorem w_alone : about1.alone = true := by decide +kernel
set_option maxRecDepth 65536 in
theorem w_named : about1.methodNamed? x = some theMethod := by decide +kernel
set_option maxRecDepth 65536 in
theorem w_hears : about1.hears theMethod below0 = true := by decide +kernel
set_option maxRecDepth 65536 in
theorem w_ripe : about1.ripe theMethod args0 below0 = true := by decide +kernel
theorem w_running : about1.status = .running := rfl
set_option maxRecDepth 65536 in
theorem w_room : about1.hasRoom e0.platform room_1 = true :=
  launch0.hasRoom_least _ room_1 (by decide +kernel) (by decide +kernel) (by decide +kernel) (by decide +kernel) (by decide +kernel) (by decide +kernel)
theorem allAtoms_all (ts : List Jvm.Cond) (a : Array Jvm.Value) (st : Jvm.State) : (allAtoms ts).before a st = ts.all (fun c => c.before a st) := by
  induction ts with
  | nil => rfl
  | cons c t ih =>
    show (Jvm.Cond.and c (allAtoms t)).before a st = _
    rw [Jvm.Cond.before_and, ih, List.all_cons]
def words1 : List Jvm.Cond := Jvm.Cond.code x code maxLocals ret :: tables_1
/-- a 'code' word, met by the world's own term for the bytes: nothing is compared byte by byte -/
theorem code_word {y : MethodName} {bytes : ByteArray} {mx : Nat} {rt : Option FieldType} {a : Array Value} {s : State} {m : MethodId} {meth : Method} {c : Code} (h1 : s.methodNamed? y = some m) (h2 : s.vm.method? m = some meth) (h3 : meth.code = some c) (h4 : c.code = bytes)
    (h5 : (c.maxLocals == mx && c.exceptionTable.isEmpty && decide (c.maxStack ≤ mostOperands) && decide (meth.sig.returnType = rt) && !meth.locks && decide (parseMethodDescriptor y.desc = some meth.sig)) = true) : (Jvm.Cond.code y bytes mx rt).before a s = true := by
  simp only [Bool.and_eq_true, beq_iff_eq, Bool.not_eq_true', decide_eq_true_eq] at h5
  obtain ⟨⟨⟨⟨⟨g1, g2⟩, g3⟩, g4⟩, g5⟩, g6⟩ := h5
  simp [Cond.before, Cond.holds, Cond.value, h1, h2, h3, h4, g1, g2, g3, g4, g5, g6]
def isCode : Jvm.Cond → Bool
  | .code _ _ _ _ => true
  | _ => false
theorem all_split {L : List Jvm.Cond} {P : Jvm.Cond → Bool} (h1 : L.all (fun c => isCode c || P c) = true) (h2 : ∀ c ∈ L.filter isCode, P c = true) : L.all P = true := by
  refine List.all_eq_true.mpr fun c hc => ?_
  have h := List.all_eq_true.mp h1 c hc
  rcases Bool.eq_false_or_eq_true (isCode c) with hi | hi
  · exact h2 c (List.mem_filter.mpr ⟨hc, hi⟩)
  · simpa [hi] using h
set_option maxRecDepth 65536 in
theorem w_c0 : (Jvm.Cond.code x code maxLocals ret).before args0 about1 = true := code_word (m := ⟨1, 1⟩) (meth := k1m1) (c := k1c1) (by decide +kernel) rfl rfl rfl (by decide +kernel)
set_option maxRecDepth 65536 in
theorem w_c1 : (Jvm.Cond.code ({ cls := "com/example/fillgauge/fillgauge/core/RandomStream", name := "<init>", desc := "(J)V" } : Jvm.MethodName) prog_34_method_1_code (3 : Nat) (Option.none : Option Jvm.ClassFile.FieldType)).before args0 about1 = true := code_word (m := ⟨2, 0⟩) (meth := k2m0) (c := k2c0) (by decide +kernel) rfl rfl rfl (by decide +kernel)
set_option maxRecDepth 65536 in
theorem w_c2 : (Jvm.Cond.code ({ cls := "java/lang/Object", name := "<init>", desc := "()V" } : Jvm.MethodName) object_method_1_code (1 : Nat) (Option.none : Option Jvm.ClassFile.FieldType)).before args0 about1 = true := code_word (m := ⟨0, 0⟩) (meth := k0m0) (c := k0c0) (by decide +kernel) rfl rfl rfl (by decide +kernel)
set_option maxRecDepth 65536 in
theorem w_c3 : (Jvm.Cond.code ({ cls := "com/example/fillgauge/fillgauge/core/RandomStream", name := "nextBoolean", desc := "()Z" } : Jvm.MethodName) prog_34_method_8_code (1 : Nat) (Option.some Jvm.ClassFile.FieldType.boolean)).before args0 about1 = true := code_word (m := ⟨2, 2⟩) (meth := k2m2) (c := k2c2) (by decide +kernel) rfl rfl rfl (by decide +kernel)
set_option maxRecDepth 65536 in
theorem w_c4 : (Jvm.Cond.code ({ cls := "com/example/fillgauge/fillgauge/core/RandomStream", name := "nextLong", desc := "()J" } : Jvm.MethodName) prog_34_method_4_code (1 : Nat) (Option.some Jvm.ClassFile.FieldType.long)).before args0 about1 = true := code_word (m := ⟨2, 1⟩) (meth := k2m1) (c := k2c1) (by decide +kernel) rfl rfl rfl (by decide +kernel)
set_option maxRecDepth 65536 in
theorem w_c5 : (Jvm.Cond.code ({ cls := "com/example/fillgauge/fillgauge/core/RandomStream", name := "mix", desc := "(J)J" } : Jvm.MethodName) prog_34_method_11_code (2 : Nat) (Option.some Jvm.ClassFile.FieldType.long)).before args0 about1 = true := code_word (m := ⟨2, 3⟩) (meth := k2m3) (c := k2c3) (by decide +kernel) rfl rfl rfl (by decide +kernel)
def codes1 : List Jvm.Cond := [Jvm.Cond.code x code maxLocals ret, Jvm.Cond.code ({ cls := "com/example/fillgauge/fillgauge/core/RandomStream", name := "<init>", desc := "(J)V" } : Jvm.MethodName) prog_34_method_1_code (3 : Nat) (Option.none : Option Jvm.ClassFile.FieldType), Jvm.Cond.code ({ cls := "java/lang/Object", name := "<init>", desc := "()V" } : Jvm.MethodName) object_method_1_code (1 : Nat) (Option.none : Option Jvm.ClassFile.FieldType), Jvm.Cond.code ({ cls := "com/example/fillgauge/fillgauge/core/RandomStream", name := "nextBoolean", desc := "()Z" } : Jvm.MethodName) prog_34_method_8_code (1 : Nat) (Option.some Jvm.ClassFile.FieldType.boolean), Jvm.Cond.code ({ cls := "com/example/fillgauge/fillgauge/core/RandomStream", name := "nextLong", desc := "()J" } : Jvm.MethodName) prog_34_method_4_code (1 : Nat) (Option.some Jvm.ClassFile.FieldType.long), Jvm.Cond.code ({ cls := "com/example/fillgauge/fillgauge/core/RandomStream", name := "mix", desc := "(J)J" } : Jvm.MethodName) prog_34_method_11_code (2 : Nat) (Option.some Jvm.ClassFile.FieldType.long)]
set_option maxRecDepth 65536 in
theorem codes_eq : words1.filter isCode = codes1 := rfl
theorem w_codes : ∀ c ∈ words1.filter isCode, c.before args0 about1 = true := by
  rw [codes_eq]
  intro c hc
  simp only [codes1, List.mem_cons, List.not_mem_nil, or_false] at hc
  rcases hc with rfl | rfl | rfl | rfl | rfl | rfl
  · exact w_c0
  · exact w_c1
  · exact w_c2
  · exact w_c3
  · exact w_c4
  · exact w_c5
set_option maxRecDepth 65536 in
theorem w_t1 : (words1.take 24).all (fun c => isCode c || c.before args0 about1) = true := by decide +kernel
set_option maxRecDepth 65536 in
theorem w_t2 : (words1.drop 24).all (fun c => isCode c || c.before args0 about1) = true := by decide +kernel
theorem w_tables : (allAtoms (Jvm.Cond.code x code maxLocals ret :: tables_1)).before args0 about1 = true := by
  rw [allAtoms_all]
  show words1.all (fun c => c.before args0 about1) = true
  refine all_split ?_ w_codes
  rw [← List.take_append_drop 24 words1, List.all_append, w_t1, w_t2]
  rfl
set_option maxRecDepth 65536 in
theorem w_case : (Jvm.Cond.and given_1 narrow_1).before args0 about1 = true := by decide +kernel
theorem w_applies : (headSpec (Jvm.Cond.code x code maxLocals ret :: tables_1) room_1).applies x e0.platform about1 = true :=
  (Spec.applies_iff w_frames).mpr ⟨w_running, w_runnable, w_alone, w_named, w_hears, w_ripe, w_room, w_tables⟩
theorem atStart : AtStart classFile x code maxLocals ret World_1 tables_1 room_1 Calls_1 rest_1 Pre_1 launch0 p0 e0 about1 theMethod args0 below0 :=
  ⟨lists_1, trivial, launch0.admits_env _ _ _, launch0.least_env, fairChoices_fair.cas, fairChoices_fair.clock, w_frames, w_args, w_heap, w_applies, trivial, trivial, w_case⟩
end start1
theorem witness_1 : WitnessClaimed_1 := ⟨start1.p0, start1.e0, start1.about1, start1.theMethod, start1.args0, start1.below0, start1.atStart⟩
end Jvm.Pilot.@@N@@
