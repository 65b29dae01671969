import JvmDerived
import JvmDerived.Pilot.@@N@@Statement
import JvmDerived.Pilot.@@N@@Code
set_option linter.unusedVariables false
set_option linter.unusedSimpArgs false
set_option maxHeartbeats 4000000
namespace Jvm.Pilot.@@N@@
open Jvm Jvm.ClassFile Sem Op Lib Jvm.Free Jvm.Stand Jvm.LawKit Jvm.RoadKit Bundle Jvm.Pilot.@@N@@.Jvm.D
/-! own kit: a walk read backwards: G T g says that from the state T with g on top the body comes to a good end -/
section OwnKit
variable {p : Program} {l : Launch} {e : Env} {R : Room} {s : State} {m : MethodId} {args : Array Value} {below : List Frame} {meth : Method} {c : Code} {T : State} {cells slots : Nat} {Z : State} {a0 : Array Value} {h : Heap} {n0 : Nat} {G : State → JFrame → Prop} {Q : Option Value → Heap → Prop}
def Clo (p : Program) (e : Env) (below : List Frame) (G : State → JFrame → Prop) : Prop := ∀ (T T' : State) (g g' : JFrame), (∀ t, Steps p.tables e below (T'.setTop g') t → Steps p.tables e below (T.setTop g) t) → G T' g' → G T g
theorem Clo.go (hs : Clo p e below G) {T T' : State} {g g' : JFrame} (st : ∀ t, Steps p.tables e below (T'.setTop g') t → Steps p.tables e below (T.setTop g) t) (k : G T' g') : G T g := hs T T' g g' st k
def Sd (p : Program) (l : Launch) (e : Env) (R : Room) (s : State) (m : MethodId) (args : Array Value) (below : List Frame) (meth : Method) (c : Code) (n0 : Nat) (T : State) (h : Heap) (cells slots : Nat) : Prop := ∃ locs, Stand p l e R s m args below meth c T locs cells slots ∧ Fr n0 locs ∧ T.heap = h
theorem Sd.here (X : Sd p l e R s m args below meth c n0 T h cells slots) : At T m c below := by obtain ⟨_, X, _⟩ := X; exact X.here
theorem Sd.more (X : Sd p l e R s m args below meth c n0 T h cells slots) {k n : Nat} (hk : cells ≤ k) (hn : slots ≤ n) : Sd p l e R s m args below meth c n0 T h k n := by obtain ⟨L, X, N⟩ := X; exact ⟨L, X.more hk hn, N⟩
/-- how a body ends -/
def Fnl (p : Program) (l : Launch) (e : Env) (R : Room) (s : State) (m : MethodId) (args : Array Value) (below : List Frame) (meth : Method) (c : Code) (n0 : Nat) (Q : Option Value → Heap → Prop) (G : State → JFrame → Prop) : Prop :=
  ∀ (T : State) (h : Heap) (k n : Nat) (g : JFrame) (v : Option Value), Sd p l e R s m args below meth c n0 T h k n → k ≤ R.cells → n ≤ R.slots → (meth.sig.returnType = none → v = none) →
    (∀ fs, (∀ (f : JFrame) (acts : List Action), f.method = m → f.locked = none → f.entered = [] → (doReturn e (T.setTop f) acts v).1 = T.setFrames fs) → Steps p.tables e below (T.setTop g) (T.setFrames fs)) → Q v h → G T g
/-- a body's contract -/
def Con (l : Launch) (Z : State) (y : MethodName) (bytes : ByteArray) (maxL : Nat) (ret : Option FieldType) (ws : List Jvm.Cond) (rm : Room) (as' : Array Value) (h : Heap) (n0 : Nat) (Q : Option Value → Heap → Prop) : Prop :=
  MetFree l y (head1 (Jvm.Cond.code y bytes maxL ret :: ws) rm) (fun a U => a = as' ∧ Z.Warmed39 U.vm ∧ U.heap = h) (fun _ _ _ _ _ => True)
    (fun _ U o U' => ∃ v L, o = .returned v ∧ (Q v U'.heap ∧ Fr n0 L) ∧ FrameEnd U o U' L rm.cells rm.slots)
theorem Con.of {y : MethodName} {bytes : ByteArray} {maxL : Nat} {ret : Option FieldType} {ws : List Jvm.Cond} {rm : Room} {as' : Array Value} (hp : plainFor y = true)
    (body : ∀ (G : State → JFrame → Prop) (p : Program) (e : Env) (s : State) (m : MethodId) (below : List Frame) (meth : Method) (c : Code) (s₁ : State),
      Clo p e below G → p.tables.exec = Jvm.exec → c.code = bytes → c.maxLocals = maxL → s.vm.findClass y.cls = some m.cls → meth.name = y.name → meth.sig.returnType = ret → Z.Warmed39 s.vm →
      Sd p l e rm s m as' below meth c n0 s₁ h 0 0 → Fnl p l e rm s m as' below meth c n0 Q G → G s₁ (entryFrame m as' maxL)) : Con l Z y bytes maxL ret ws rm as' h n0 Q := by
  refine MetFree.of_bodySF hp hisR ?_
  intro p e s m args below meth c s₁ Bd hml hP hK
  obtain ⟨ha, hZ, hh⟩ := hP
  subst ha
  refine body (fun T g => ∃ s₂ o, Steps p.tables e below (T.setTop g) s₂ ∧ s₂.status = .running ∧ Ended s₂ below o ∧ ∃ v L, o = .returned v ∧ (Q v s₂.heap ∧ Fr n0 L) ∧ FrameEnd s o s₂ L rm.cells rm.slots) p e s m below meth c s₁ ?_ Bd.exec Bd.bytes hml (findClass_of_methodNamed Bd.named) (name_of_methodNamed Bd.named Bd.method).1 Bd.returns hZ ⟨[], Stand.of_body Bd, Fr.nil n0, by rw [← hh, Bd.state]; rfl⟩ ?_
  · intro T T' g g' st ⟨s₂, o, h1, r⟩
    exact ⟨s₂, o, st _ h1, r⟩
  · intro T h k n g v ⟨locs, X, N, eh⟩ hk hn hv st q
    obtain ⟨fs, hr, hrun, hended, hW, hsame⟩ := X.leave (v := v) hv Bd.notSynchronized
    exact ⟨_, _, st fs hr, hrun, hended, v, locs, rfl, ⟨by show Q v T.heap; rw [eh]; exact q, N⟩, ⟨_, rfl⟩, hW, hsame.mono hk hn⟩
theorem rRetI (fin : Fnl p l e R s m args below meth c n0 Q G) (X : Sd p l e R s m args below meth c n0 T h cells slots) (hx : p.tables.exec = Jvm.exec) (hk : cells ≤ R.cells) (hn : slots ≤ R.slots) (hret : meth.sig.returnType = some .int) {pc : Nat} {Ls : Array Slot} {z : Int32} {rest : List Value} (hd : decode c.code pc = .ok (.ireturn, 1)) (q : Q (some (.int z)) h) : G T (mkF m pc Ls (.int z :: rest)) :=
  fin T h cells slots _ (some (.int z)) X hk hn (fun h => by rw [hret] at h; cases h) (fun fs hr => by obtain ⟨_, X, _⟩ := X; exact retOut X hx hret rfl (Or.inl ⟨rfl, Or.inl rfl, _, rfl⟩) hd hr) q
theorem rRetN (fin : Fnl p l e R s m args below meth c n0 Q G) (X : Sd p l e R s m args below meth c n0 T h cells slots) (hx : p.tables.exec = Jvm.exec) (hk : cells ≤ R.cells) (hn : slots ≤ R.slots) {t : FieldType} (hret : meth.sig.returnType = some t) (ht : t = .boolean ∨ t = .byte ∨ t = .char ∨ t = .short) {pc : Nat} {Ls : Array Slot} {z z' : Int32} {rest : List Value} (hd : decode c.code pc = .ok (.ireturn, 1)) (hz : nar t z = z') (q : Q (some (.int z')) h) : G T (mkF m pc Ls (.int z :: rest)) :=
  fin T h cells slots _ (some (.int (nar t z))) X hk hn (fun h => by rw [hret] at h; cases h) (fun fs hr => by obtain ⟨_, X, _⟩ := X; exact retN X hx hret ht hd hr) (hz ▸ q)
theorem rRetL (fin : Fnl p l e R s m args below meth c n0 Q G) (X : Sd p l e R s m args below meth c n0 T h cells slots) (hx : p.tables.exec = Jvm.exec) (hk : cells ≤ R.cells) (hn : slots ≤ R.slots) (hret : meth.sig.returnType = some .long) {pc : Nat} {Ls : Array Slot} {z : Int64} {rest : List Value} (hd : decode c.code pc = .ok (.lreturn, 1)) (q : Q (some (.long z)) h) : G T (mkF m pc Ls (.long z :: rest)) :=
  fin T h cells slots _ (some (.long z)) X hk hn (fun h => by rw [hret] at h; cases h) (fun fs hr => by obtain ⟨_, X, _⟩ := X; exact retOut X hx hret rfl (Or.inr (Or.inl ⟨rfl, rfl, _, rfl⟩)) hd hr) q
theorem rRetA (fin : Fnl p l e R s m args below meth c n0 Q G) (X : Sd p l e R s m args below meth c n0 T h cells slots) (hx : p.tables.exec = Jvm.exec) (hk : cells ≤ R.cells) (hn : slots ≤ R.slots) {t : FieldType} (hret : meth.sig.returnType = some t) (ht : t.isReference = true) {pc : Nat} {Ls : Array Slot} {z : Value} (hz : z.isRef = true) (hw : narrow t z = z) {rest : List Value} (hd : decode c.code pc = .ok (.areturn, 1)) (q : Q (some z) h) : G T (mkF m pc Ls (z :: rest)) :=
  fin T h cells slots _ (some z) X hk hn (fun h => by rw [hret] at h; cases h) (fun fs hr => by obtain ⟨_, X, _⟩ := X; exact retOut X hx hret hw (Or.inr (Or.inr (Or.inr (Or.inr ⟨rfl, ht, hz⟩)))) hd hr) q
theorem rRetD (fin : Fnl p l e R s m args below meth c n0 Q G) (X : Sd p l e R s m args below meth c n0 T h cells slots) (hx : p.tables.exec = Jvm.exec) (hk : cells ≤ R.cells) (hn : slots ≤ R.slots) (hret : meth.sig.returnType = some .double) {pc : Nat} {Ls : Array Slot} {z : UInt64} {rest : List Value} (hd : decode c.code pc = .ok (.dreturn, 1)) (q : Q (some (.double z)) h) : G T (mkF m pc Ls (.double z :: rest)) :=
  fin T h cells slots _ (some (.double z)) X hk hn (fun h => by rw [hret] at h; cases h) (fun fs hr => by obtain ⟨_, X, _⟩ := X; exact retOut X hx hret rfl (Or.inr (Or.inr (Or.inl ⟨rfl, rfl, _, rfl⟩))) hd hr) q
theorem rRetV (fin : Fnl p l e R s m args below meth c n0 Q G) (X : Sd p l e R s m args below meth c n0 T h cells slots) (hx : p.tables.exec = Jvm.exec) (hk : cells ≤ R.cells) (hn : slots ≤ R.slots) (hret : meth.sig.returnType = none) {pc : Nat} {Ls : Array Slot} (hd : decode c.code pc = .ok (.return_, 1)) (q : Q none h) : G T (mkF m pc Ls []) :=
  fin T h cells slots _ none X hk hn (fun _ => rfl) (fun fs hr => by obtain ⟨_, X, _⟩ := X; exact X.returnOut hx hret hd hr) q
theorem rLdcI (hs : Clo p e below G) (X : Sd p l e R s m args below meth c n0 T h cells slots) (hx : p.tables.exec = Jvm.exec) (hZ : Z.Warmed39 s.vm) {own : String} {index : Nat} {v : Int32} (hown : s.vm.findClass own = some m.cls) (w : (Jvm.Cond.constant own index v).before a0 Z = true) {g : JFrame} (hg : g.method = m) (hd : decode c.code g.pc = .ok (.ldc index, 2)) (k : G T { g with pc := g.pc + 2, stack := .int v :: g.stack }) : G T g := by
  obtain ⟨_, X, _⟩ := X
  exact hs.go (X.ldcInt hx hown (mvT hZ w) hg hd) k
theorem rLdcL (hs : Clo p e below G) (X : Sd p l e R s m args below meth c n0 T h cells slots) (hx : p.tables.exec = Jvm.exec) (hZ : Z.Warmed39 s.vm) {own : String} {index : Nat} {v : Int64} (hown : s.vm.findClass own = some m.cls) (w : (Jvm.Cond.constantLong own index v).before a0 Z = true) {g : JFrame} (hg : g.method = m) (hd : decode c.code g.pc = .ok (.ldc2_w index, 3)) (k : G T { g with pc := g.pc + 3, stack := .long v :: g.stack }) : G T g := by
  obtain ⟨_, X, _⟩ := X
  exact hs.go (X.ldc2Long hx hown (mvT hZ w) hg hd) k
theorem rLdcD (hs : Clo p e below G) (X : Sd p l e R s m args below meth c n0 T h cells slots) (hx : p.tables.exec = Jvm.exec) (hZ : Z.Warmed39 s.vm) {own : String} {index : Nat} {v : UInt64} (hown : s.vm.findClass own = some m.cls) (w : (Jvm.Cond.constantDouble own index v).before a0 Z = true) {g : JFrame} (hg : g.method = m) (hd : decode c.code g.pc = .ok (.ldc2_w index, 3)) (k : G T { g with pc := g.pc + 3, stack := .double v :: g.stack }) : G T g := by
  obtain ⟨_, X, _⟩ := X
  exact hs.go (X.ldc2DoubleC hx hown (mvT hZ w) hg hd) k
theorem rIrem (hs : Clo p e below G) (X : Sd p l e R s m args below meth c n0 T h cells slots) (hx : p.tables.exec = Jvm.exec) {g : JFrame} (hg : g.method = m) {x y : Int32} {rest : List Value} (hd : decode c.code g.pc = .ok (.irem, 1)) (hst : g.stack = .int y :: .int x :: rest) (hy : y ≠ 0) (k : G T { g with pc := g.pc + 1, stack := .int (x % y) :: rest }) : G T g := by
  obtain ⟨_, X, _⟩ := X
  exact hs.go (fun _ q => iremM X hx hg hd hst hy q) k
theorem rLrem (hs : Clo p e below G) (X : Sd p l e R s m args below meth c n0 T h cells slots) (hx : p.tables.exec = Jvm.exec) {g : JFrame} (hg : g.method = m) {x y : Int64} {rest : List Value} (hd : decode c.code g.pc = .ok (.lrem, 1)) (hst : g.stack = .long y :: .long x :: rest) (hy : y ≠ 0) (k : G T { g with pc := g.pc + 1, stack := .long (x % y) :: rest }) : G T g :=
  hs.go (fun _ q => XS.lrem X.here hx hg hd hst hy q) (by rw [lrem_mod]; exact k)
/-! arrays -/
theorem rNewP (hs : Clo p e below G) (X : Sd p l e R s m args below meth c n0 T h cells slots) (hx : p.tables.exec = Jvm.exec) (hZ : Z.Warmed39 s.vm) {aty : ArrayType} (w : (Jvm.Cond.arrayClass (newarray.typeOf aty)).before a0 Z = true) {g : JFrame} (hg : g.method = m) (hd : decode c.code g.pc = .ok (.newarray aty, 2)) {n : Int32} {rest : List Value} (hst : g.stack = .int n :: rest)
    (hn : ¬ n < 0) (cap len : Nat) (hcap : n.toNatClampNeg ≤ cap) (hb : cap * 8 ≤ 536870912) (hc : cells + 1 ≤ R.cells) (hl : slots + cap ≤ R.slots)
    (k : ∀ (T' : State) (h' : Heap) (cA : ClassId) (b : Addr), b = h.size → Sd p l e R s m args below meth c n0 T' h' (cells + 1) (slots + cap) → Ext h h' → Arv Z h' b cA (newarray.typeOf aty) n (List.replicate len (defaultValue (newarray.typeOf aty))) (defaultValue (newarray.typeOf aty)) → G T' { g with pc := g.pc + 2, stack := .ref b :: rest }) : G T g := by
  obtain ⟨L, X, N, eh⟩ := X
  obtain ⟨T', h', cA, X', e', E, A, st⟩ := newP X hx hZ w eh hg hd hst hn hcap hb hc hl
  exact hs.go st (k T' h' cA h.size rfl ⟨L, X', N, e'⟩ E ((Arv.new A hn).pad (pad_rep [] _ len)))
theorem rStI (hs : Clo p e below G) (X : Sd p l e R s m args below meth c n0 T h cells slots) (hx : p.tables.exec = Jvm.exec) (hZ : Z.Warmed39 s.vm) {a : Addr} {kc : ClassId} {z : Int32} {vs : List Value} {dv : Value} (V : Arv Z h a kc .int z vs dv) (ga : n0 ≤ a) {j x : Int32} (hj : ¬ j < 0 ∧ j < z) (i : Nat) (hi : j.toNatClampNeg = i) (hl : i < vs.length)
    {g : JFrame} (hg : g.method = m) {rest : List Value} (hst : g.stack = .int x :: .int j :: .ref a :: rest) (hd : decode c.code g.pc = .ok (.iastore, 1))
    (k : ∀ (T' : State) (h' : Heap), Sd p l e R s m args below meth c n0 T' h' cells slots → Wr h h' a i (.int x) → Arv Z h' a kc .int z (vs.set i (.int x)) dv → G T' { g with pc := g.pc + 1, stack := rest }) : G T g := by
  obtain ⟨L, X, N, eh⟩ := X
  obtain ⟨cl, A, q1, S, q3, H, F⟩ := V
  obtain ⟨T', h', X', e', W, st⟩ := stI X hx hZ eh A (j := j) (inb_of S hj) hg hst hd
  exact hs.go st (k T' h' ⟨_, X', Fr.snoc X' N ga, e'⟩ (hi ▸ W) (Arv.set A q1 S q3 H F rfl W i hi hl))
theorem rStB (hs : Clo p e below G) (X : Sd p l e R s m args below meth c n0 T h cells slots) (hx : p.tables.exec = Jvm.exec) (hZ : Z.Warmed39 s.vm) {a : Addr} {kc : ClassId} {z : Int32} {vs : List Value} {dv : Value} (V : Arv Z h a kc .byte z vs dv) (ga : n0 ≤ a) {j x x' : Int32} (hj : ¬ j < 0 ∧ j < z) (i : Nat) (hi : j.toNatClampNeg = i) (hl : i < vs.length) (hnx : x.toInt8.toInt32 = x')
    {g : JFrame} (hg : g.method = m) {rest : List Value} (hst : g.stack = .int x :: .int j :: .ref a :: rest) (hd : decode c.code g.pc = .ok (.bastore, 1))
    (k : ∀ (T' : State) (h' : Heap), Sd p l e R s m args below meth c n0 T' h' cells slots → Wr h h' a i (.int x') → Arv Z h' a kc .byte z (vs.set i (.int x')) dv → G T' { g with pc := g.pc + 1, stack := rest }) : G T g := by
  obtain ⟨L, X, N, eh⟩ := X
  obtain ⟨cl, A, q1, S, q3, H, F⟩ := V
  obtain ⟨T', h', X', e', W, st⟩ := stB X hx hZ eh A (j := j) (inb_of S hj) hg hst hd
  subst hnx
  exact hs.go st (k T' h' ⟨_, X', Fr.snoc X' N ga, e'⟩ (hi ▸ W) (Arv.set A q1 S q3 H F (fits_nar_byte _) W i hi hl))
theorem rStC (hs : Clo p e below G) (X : Sd p l e R s m args below meth c n0 T h cells slots) (hx : p.tables.exec = Jvm.exec) (hZ : Z.Warmed39 s.vm) {a : Addr} {kc : ClassId} {z : Int32} {vs : List Value} {dv : Value} (V : Arv Z h a kc .char z vs dv) (ga : n0 ≤ a) {j x x' : Int32} (hj : ¬ j < 0 ∧ j < z) (i : Nat) (hi : j.toNatClampNeg = i) (hl : i < vs.length) (hnx : nar .char x = x')
    {g : JFrame} (hg : g.method = m) {rest : List Value} (hst : g.stack = .int x :: .int j :: .ref a :: rest) (hd : decode c.code g.pc = .ok (.castore, 1))
    (k : ∀ (T' : State) (h' : Heap), Sd p l e R s m args below meth c n0 T' h' cells slots → Wr h h' a i (.int x') → Arv Z h' a kc .char z (vs.set i (.int x')) dv → G T' { g with pc := g.pc + 1, stack := rest }) : G T g := by
  obtain ⟨L, X, N, eh⟩ := X
  obtain ⟨cl, A, q1, S, q3, H, F⟩ := V
  obtain ⟨T', h', X', e', W, st⟩ := stC X hx hZ eh A (j := j) (inb_of S hj) hg hst hd
  subst hnx
  exact hs.go st (k T' h' ⟨_, X', Fr.snoc X' N ga, e'⟩ (hi ▸ W) (Arv.set A q1 S q3 H F (fits_nar_char _) W i hi hl))
theorem rLdI (hs : Clo p e below G) (X : Sd p l e R s m args below meth c n0 T h cells slots) (hx : p.tables.exec = Jvm.exec) (hZ : Z.Warmed39 s.vm) {a : Addr} {kc : ClassId} {z : Int32} {vs : List Value} {dv : Value} (V : Arv Z h a kc .int z vs dv) {j : Int32} (hj : ¬ j < 0 ∧ j < z) {v : Value} (hv : vs.getD j.toNatClampNeg dv = v)
    {g : JFrame} (hg : g.method = m) {rest : List Value} (hst : g.stack = .int j :: .ref a :: rest) (hd : decode c.code g.pc = .ok (.iaload, 1)) (k : G T { g with pc := g.pc + 1, stack := v :: rest }) : G T g := by
  obtain ⟨L, X, N, eh⟩ := X
  obtain ⟨cl, A, q1, S, q3, H, F⟩ := V
  exact hs.go (X.iaload hx (j := j) (v := v) (by rw [eh]; exact A.1) (State.isArrayOf_alike hZ.alike A.2.1) A.2.2 (inb_of S hj) (H.at (inb_of S hj) hv) hg hst hd) k
theorem rLdB (hs : Clo p e below G) (X : Sd p l e R s m args below meth c n0 T h cells slots) (hx : p.tables.exec = Jvm.exec) (hZ : Z.Warmed39 s.vm) {a : Addr} {kc : ClassId} {z : Int32} {vs : List Value} {dv : Value} (V : Arv Z h a kc .byte z vs dv) {j : Int32} (hj : ¬ j < 0 ∧ j < z) {v : Value} (hv : vs.getD j.toNatClampNeg dv = v)
    {g : JFrame} (hg : g.method = m) {rest : List Value} (hst : g.stack = .int j :: .ref a :: rest) (hd : decode c.code g.pc = .ok (.baload, 1)) (k : G T { g with pc := g.pc + 1, stack := v :: rest }) : G T g := by
  obtain ⟨L, X, N, eh⟩ := X
  obtain ⟨cl, A, q1, S, q3, H, F⟩ := V
  exact hs.go (X.baloadBytes hx (j := j) (v := v) (by rw [eh]; exact A.1) (State.isArrayOf_alike hZ.alike A.2.1) A.2.2 (inb_of S hj) (H.at (inb_of S hj) hv) hg hst hd) k
theorem rLdC (hs : Clo p e below G) (X : Sd p l e R s m args below meth c n0 T h cells slots) (hx : p.tables.exec = Jvm.exec) (hZ : Z.Warmed39 s.vm) {a : Addr} {kc : ClassId} {z : Int32} {vs : List Value} {dv : Value} (V : Arv Z h a kc .char z vs dv) {j : Int32} (hj : ¬ j < 0 ∧ j < z) {v : Value} (hv : vs.getD j.toNatClampNeg dv = v)
    {g : JFrame} (hg : g.method = m) {rest : List Value} (hst : g.stack = .int j :: .ref a :: rest) (hd : decode c.code g.pc = .ok (.caload, 1)) (k : G T { g with pc := g.pc + 1, stack := v :: rest }) : G T g := by
  obtain ⟨L, X, N, eh⟩ := X
  obtain ⟨cl, A, q1, S, q3, H, F⟩ := V
  exact hs.go (X.caload hx (j := j) (v := v) (by rw [eh]; exact A.1) (State.isArrayOf_alike hZ.alike A.2.1) A.2.2 (inb_of S hj) (H.at (inb_of S hj) hv) hg hst hd) k
theorem rLdR (hs : Clo p e below G) (X : Sd p l e R s m args below meth c n0 T h cells slots) (hx : p.tables.exec = Jvm.exec) (hZ : Z.Warmed39 s.vm) {a : Addr} {kc : ClassId} {ty : FieldType} {z : Int32} {vs : List Value} {dv : Value} (V : Arv Z h a kc ty z vs dv) (hty : ty.isReference = true) {j : Int32} (hj : ¬ j < 0 ∧ j < z) {v : Value} (hv : vs.getD j.toNatClampNeg dv = v)
    {g : JFrame} (hg : g.method = m) {rest : List Value} (hst : g.stack = .int j :: .ref a :: rest) (hd : decode c.code g.pc = .ok (.aaload, 1)) (k : G T { g with pc := g.pc + 1, stack := v :: rest }) : G T g := by
  obtain ⟨L, X, N, eh⟩ := X
  obtain ⟨cl, A, q1, S, q3, H, F⟩ := V
  exact hs.go (X.aaload hx (j := j) (v := v) (by rw [eh]; exact A.1) (State.isArrayOf_alike hZ.alike A.2.1) hty A.2.2 (inb_of S hj) (H.at (inb_of S hj) hv) hg hst hd) k
theorem rLen (hs : Clo p e below G) (X : Sd p l e R s m args below meth c n0 T h cells slots) (hx : p.tables.exec = Jvm.exec) (hZ : Z.Warmed39 s.vm) {a : Addr} {kc : ClassId} {ty : FieldType} {z : Int32} {vs : List Value} {dv : Value} (V : Arv Z h a kc ty z vs dv)
    {g : JFrame} (hg : g.method = m) {rest : List Value} (hst : g.stack = .ref a :: rest) (hd : decode c.code g.pc = .ok (.arraylength, 1)) (k : G T { g with pc := g.pc + 1, stack := .int z :: rest }) : G T g := by
  obtain ⟨L, X, N, eh⟩ := X
  obtain ⟨cl, A, q1, S, q3, H, F⟩ := V
  exact hs.go (X.arraylength hx (by rw [eh]; exact A.1) (State.isArrayOf_alike hZ.alike A.2.1) hg hst hd) (by rw [len_of S q3]; exact k)
theorem rNewR (hs : Clo p e below G) (X : Sd p l e R s m args below meth c n0 T h cells slots) (hx : p.tables.exec = Jvm.exec) (hZ : Z.Warmed39 s.vm) {own C : String} {index : Nat} (hown : s.vm.findClass own = some m.cls) (w1 : (Jvm.Cond.classLink own index C).before a0 Z = true) (w2 : (Jvm.Cond.arrayOver (.object C)).before a0 Z = true) {g : JFrame} (hg : g.method = m) (hd : decode c.code g.pc = .ok (.anewarray index, 3)) {n : Int32} {rest : List Value} (hst : g.stack = .int n :: rest)
    (hn : ¬ n < 0) (cap len : Nat) (hcap : n.toNatClampNeg ≤ cap) (hb : cap * 8 ≤ 536870912) (hc : cells + 1 ≤ R.cells) (hl : slots + cap ≤ R.slots)
    (k : ∀ (T' : State) (h' : Heap) (cA : ClassId) (b : Addr), b = h.size → Sd p l e R s m args below meth c n0 T' h' (cells + 1) (slots + cap) → Ext h h' → Arv Z h' b cA (.object C) n (List.replicate len .null) .null → Ovr Z cA C → G T' { g with pc := g.pc + 3, stack := .ref b :: rest }) : G T g := by
  obtain ⟨L, X, N, eh⟩ := X
  obtain ⟨T', h', cA, X', e', E, A, O, st⟩ := newR X hx hZ hown w1 w2 eh hg hd hst hn hcap hb hc hl
  exact hs.go st (k T' h' cA h.size rfl ⟨L, X', N, e'⟩ E ((Arv.new A hn).pad (pad_rep [] _ len)) O)
theorem rStR (hs : Clo p e below G) (X : Sd p l e R s m args below meth c n0 T h cells slots) (hx : p.tables.exec = Jvm.exec) (hZ : Z.Warmed39 s.vm) {a : Addr} {kc : ClassId} {C : String} {z : Int32} {vs : List Value} {dv : Value} (V : Arv Z h a kc (.object C) z vs dv) (O : Ovr Z kc C) (ga : n0 ≤ a) {j : Int32} {y : Addr} (I : Ins Z h y C true) (hj : ¬ j < 0 ∧ j < z) (i : Nat) (hi : j.toNatClampNeg = i) (hl : i < vs.length)
    {g : JFrame} (hg : g.method = m) {rest : List Value} (hst : g.stack = .ref y :: .int j :: .ref a :: rest) (hd : decode c.code g.pc = .ok (.aastore, 1))
    (k : ∀ (T' : State) (h' : Heap), Sd p l e R s m args below meth c n0 T' h' cells slots → Wr h h' a i (.ref y) → Arv Z h' a kc (.object C) z (vs.set i (.ref y)) dv → G T' { g with pc := g.pc + 1, stack := rest }) : G T g := by
  obtain ⟨L, X, N, eh⟩ := X
  obtain ⟨cl, A, q1, S, q3, H, F⟩ := V
  obtain ⟨T', h', X', e', W, st⟩ := stR X hx hZ eh A (j := j) (v := .ref y) (inb_of S hj) rfl (Sto.ofV A q1 O I) hg hst hd
  exact hs.go st (k T' h' ⟨_, X', Fr.snoc X' N ga, e'⟩ (hi ▸ W) (Arv.set A q1 S q3 H F rfl W i hi hl))
/-! objects -/
theorem rNewO (hs : Clo p e below G) (X : Sd p l e R s m args below meth c n0 T h cells slots) (hx : p.tables.exec = Jvm.exec) (hZ : Z.Warmed39 s.vm) {own C : String} {index n : Nat} (hown : s.vm.findClass own = some m.cls) (w : (Jvm.Cond.classLink own index C).before a0 Z = true) (wi : (Jvm.Cond.instantiable C n).before a0 Z = true) (wz : (Jvm.Cond.initialized C).before a0 Z = true)
    {g : JFrame} (hg : g.method = m) (hd : decode c.code g.pc = .ok (.new index, 3)) (hc : cells + 1 ≤ R.cells) (hl : slots + n ≤ R.slots)
    (k : ∀ (T' : State) (h' : Heap) (b : Addr), b = h.size → Sd p l e R s m args below meth c n0 T' h' (cells + 1) (slots + n) → Ext h h' → Exa Z h' b C → (∀ {O nm d : String} {ty : FieldType}, Laid Z a0 C O nm d → parseFieldDescriptor d = some ty → Fld Z h' b O nm d (defaultValue ty)) → G T' { g with pc := g.pc + 3, stack := .ref b :: g.stack }) : G T g := by
  obtain ⟨L, X, N, eh⟩ := X
  obtain ⟨T', h', X', e', E, A, D, -, st⟩ := newO X hx hZ hown w wi wz eh hg hd hc hl
  exact hs.go st (k T' h' h.size rfl ⟨L, X', N, e'⟩ E A D)
theorem rInitO (hs : Clo p e below G) (X : Sd p l e R s m args below meth c n0 T h cells slots) (hx : p.tables.exec = Jvm.exec) (hZ : Z.Warmed39 s.vm) {own : String} {idx : Nat} (hown : s.vm.findClass own = some m.cls) (w1 : (Jvm.Cond.methodLink own idx Lib.objectInit).before a0 Z = true) (w2 : (Jvm.Cond.instanceMethod Lib.objectInit).before a0 Z = true)
    (w3 : (Jvm.Cond.code Lib.objectInit ⟨#[0xb1]⟩ 1 none).before a0 Z = true) {g : JFrame} (hg : g.method = m) (hsize : g.locals.size = c.maxLocals) {a : Addr} {rest : List Value} (hst : g.stack = .ref a :: rest) (hd : decode c.code g.pc = .ok (.invokespecial idx, 3))
    (hf : 1 ≤ R.frames) {W : Nat} (hW : 2 * g.monitorRoom + (rest.map fun v => v.category).sum ≤ W) (hl : W + 12 ≤ R.locals)
    (k : ∀ T' : State, Sd p l e R s m args below meth c n0 T' h cells slots → G T' { g with pc := g.pc + 3, stack := rest }) : G T g := by
  obtain ⟨L, X, N, eh⟩ := X
  obtain ⟨T', X', e', st⟩ := initO X hx hZ hown w1 w2 w3 eh hg hsize hst hd hf hW hl
  exact hs.go st (k T' ⟨L, X', N, e'⟩)
theorem rGetF (hs : Clo p e below G) (X : Sd p l e R s m args below meth c n0 T h cells slots) (hx : p.tables.exec = Jvm.exec) (hZ : Z.Warmed39 s.vm) {own R0 O n d host : String} {index : Nat} (hown : s.vm.findClass own = some m.cls) (w : (Jvm.Cond.fieldLink own index R0 n d).before a0 Z = true ∨ (Jvm.Cond.fieldLinkNest own index R0 n d host).before a0 Z = true) (via : Via Z R0 O n d)
    {a : Addr} {v : Value} (F : Fld Z h a O n d v) {g : JFrame} (hg : g.method = m) {rest : List Value} (hst : g.stack = .ref a :: rest) (hd : decode c.code g.pc = .ok (.getfield index, 3))
    (k : ∀ T' : State, Sd p l e R s m args below meth c n0 T' h cells slots → G T' { g with pc := g.pc + 3, stack := v :: rest }) : G T g := by
  obtain ⟨L, X, N, eh⟩ := X
  obtain ⟨T', X', e', st⟩ := getF X hx hZ hown w via eh F hg hst hd
  exact hs.go st (k T' ⟨L, X', N, e'⟩)
theorem rGetS (hs : Clo p e below G) (X : Sd p l e R s m args below meth c n0 T h cells slots) (hx : p.tables.exec = Jvm.exec) (hZ : Z.Warmed39 s.vm) {own R0 O n d host : String} {index : Nat} (hown : s.vm.findClass own = some m.cls) (w : (Jvm.Cond.fieldLink own index R0 n d).before a0 Z = true ∨ (Jvm.Cond.fieldLinkNest own index R0 n d host).before a0 Z = true) (via : Via Z R0 O n d)
    {v : Value} (F : Sta Z h O n d v) {g : JFrame} (hg : g.method = m) (hd : decode c.code g.pc = .ok (.getstatic index, 3))
    (k : ∀ T' : State, Sd p l e R s m args below meth c n0 T' h cells slots → G T' { g with pc := g.pc + 3, stack := v :: g.stack }) : G T g := by
  obtain ⟨L, X, N, eh⟩ := X
  obtain ⟨T', X', e', st⟩ := getS2 X hx hZ hown w via eh F hg hd
  exact hs.go st (k T' ⟨L, X', N, e'⟩)
theorem rPutF (hs : Clo p e below G) (X : Sd p l e R s m args below meth c n0 T h cells slots) (hx : p.tables.exec = Jvm.exec) (hZ : Z.Warmed39 s.vm) {own R0 O n d host C : String} {index kk : Nat} (ty : FieldType) (hown : s.vm.findClass own = some m.cls) (w : (Jvm.Cond.fieldLink own index R0 n d).before a0 Z = true ∨ (Jvm.Cond.fieldLinkNest own index R0 n d host).before a0 Z = true) (via : Via Z R0 O n d)
    {a : Addr} {v old : Value} (F : Fld Z h a O n d old) (E : Exa Z h a C) (ga : n0 ≤ a) (L : (Jvm.Cond.lays C O n d).before a0 Z = true ∨ ((Jvm.Cond.laysFinal C O n d).before a0 Z = true ∧ own = O ∧ meth.name = "<init>")) (wi : (Jvm.Cond.instantiable C kk).before a0 Z = true)
    (hty : parseFieldDescriptor d = some ty) (hn : narrow ty v = v) (hf : fits ty v = true) {g : JFrame} (hg : g.method = m) {rest : List Value} (hst : g.stack = v :: .ref a :: rest) (hd : decode c.code g.pc = .ok (.putfield index, 3))
    (k : ∀ (T' : State) (h' : Heap), Sd p l e R s m args below meth c n0 T' h' cells slots → Wr h h' a (Jvm.RoadKit.slotOf Z O n d) v → Fld Z h' a O n d v → G T' { g with pc := g.pc + 3, stack := rest }) : G T g := by
  obtain ⟨L0, X, N, eh⟩ := X
  obtain ⟨T', h', X', e', W, st⟩ := putF X hx hZ hown w via eh F E L wi hty hn hf hg hst hd
  exact hs.go st (k T' h' ⟨_, X', Fr.snoc X' N ga, e'⟩ W (F.same W))
/-! calls -/
theorem rCallS (hs : Clo p e below G) (X : Sd p l e R s m args below meth c n0 T h cells slots) (hx : p.tables.exec = Jvm.exec) (hZ : Z.Warmed39 s.vm) {own : String} {index : Nat} {y : MethodName} {bytes : ByteArray} {maxL : Nat} {ret : Option FieldType} {rm : Room} {as' : List Value} {Q' : Option Value → Heap → Prop}
    (hM : Con l Z y bytes maxL ret [] rm as'.toArray h n0 Q') (hown : s.vm.findClass own = some m.cls) (w1 : (Jvm.Cond.methodLink own index y).before a0 Z = true) (w2 : (Jvm.Cond.static y).before a0 Z = true) (w3 : (Jvm.Cond.initialized y.cls).before a0 Z = true) (w4 : (Jvm.Cond.code y bytes maxL ret).before a0 Z = true)
    (hy : y.cls ≠ "java/lang/invoke/MethodHandle" ∧ y.cls ≠ "java/lang/invoke/VarHandle") {g : JFrame} (hg : g.method = m) (hsize : g.locals.size = c.maxLocals) (rest : List Value) (hlen : ∀ sig, parseMethodDescriptor y.desc = some sig → as'.length = sig.parameters.length)
    (hst : g.stack = as'.reverse ++ rest) (W : Nat) (hW : 2 * g.monitorRoom + (rest.map fun v => v.category).sum ≤ W) (hd : decode c.code g.pc = .ok (.invokestatic index, 3))
    (hf : rm.frames + 1 ≤ R.frames) (hl : W + (maxL + 11) + rm.locals ≤ R.locals) (hc : cells + rm.cells ≤ R.cells) (hsl : slots + rm.slots ≤ R.slots)
    (k : ∀ (v : Option Value) (T' : State) (h' : Heap), Sd p l e R s m args below meth c n0 T' h' (cells + rm.cells) (slots + rm.slots) → Q' v h' → G T' { g with pc := g.pc + 3, stack := v.toList ++ rest }) : G T g := by
  obtain ⟨L, X, N, eh⟩ := X
  obtain ⟨v, vm₁, ⟨T', L', k', n'⟩, -, X', ⟨Lc, ⟨hQ, hN⟩, l', y', z'⟩, st⟩ := Jvm.LawKit.callS X hx (y := y) hown (mvT hZ w1) (mvT hZ w2) (mvT hZ w3) (mvT hZ w4) hy (backOf (Q := fun v h L => Q' v h ∧ Fr n0 L) (W := W) hM hZ w4 w3 hf hl) hg hsize (argsL := as') (rest := rest) hlen hst hW hd (fun _ _ => ⟨rfl, eh, hc, hsl⟩)
  dsimp only [Pt.U, Pt.locs, Pt.cells, Pt.slots] at X' l' y' z' st hQ
  subst l' y' z'
  exact hs.go st (k v T' T'.heap ⟨_, X', Fr.app N hN, rfl⟩ hQ)
theorem rCallI (hs : Clo p e below G) (X : Sd p l e R s m args below meth c n0 T h cells slots) (hx : p.tables.exec = Jvm.exec) (hZ : Z.Warmed39 s.vm) {own : String} {index : Nat} {y : MethodName} {bytes : ByteArray} {maxL : Nat} {rm : Room} {a : Addr} {as' : List Value} {Q' : Option Value → Heap → Prop}
    (hM : Con l Z y bytes maxL none [] rm (Value.ref a :: as').toArray h n0 Q') (hyn : y.name = "<init>") (hown : s.vm.findClass own = some m.cls) (w1 : (Jvm.Cond.methodLink own index y).before a0 Z = true) (w2 : (Jvm.Cond.instanceMethod y).before a0 Z = true) (w3 : (Jvm.Cond.initialized y.cls).before a0 Z = true) (w4 : (Jvm.Cond.code y bytes maxL none).before a0 Z = true)
    (hy : y.cls ≠ "java/lang/invoke/MethodHandle" ∧ y.cls ≠ "java/lang/invoke/VarHandle") {g : JFrame} (hg : g.method = m) (hsize : g.locals.size = c.maxLocals) (rest : List Value) (hlen : ∀ sig, parseMethodDescriptor y.desc = some sig → as'.length = sig.parameters.length)
    (hst : g.stack = as'.reverse ++ .ref a :: rest) (W : Nat) (hW : 2 * g.monitorRoom + (rest.map fun v => v.category).sum ≤ W) (hd : decode c.code g.pc = .ok (.invokespecial index, 3))
    (hf : rm.frames + 1 ≤ R.frames) (hl : W + (maxL + 11) + rm.locals ≤ R.locals) (hc : cells + rm.cells ≤ R.cells) (hsl : slots + rm.slots ≤ R.slots)
    (k : ∀ (v : Option Value) (T' : State) (h' : Heap), Sd p l e R s m args below meth c n0 T' h' (cells + rm.cells) (slots + rm.slots) → Q' v h' → G T' { g with pc := g.pc + 3, stack := v.toList ++ rest }) : G T g := by
  obtain ⟨L, X, N, eh⟩ := X
  obtain ⟨v, vm₁, ⟨T', L', k', n'⟩, -, X', ⟨Lc, ⟨hQ, hN⟩, l', y', z'⟩, st⟩ := X.specialBack hx (y := y) hyn hown (mvT hZ w1) (mvT hZ w2) (mvT hZ w4) hy (backOf (Q := fun v h L => Q' v h ∧ Fr n0 L) (W := W) hM hZ w4 w3 hf hl) hg hsize (Steps.refl _) (a := a) (argsL := as') (rest := rest) hlen hst hW hd (fun _ _ => ⟨rfl, eh, hc, hsl⟩)
  dsimp only [Pt.U, Pt.locs, Pt.cells, Pt.slots] at X' l' y' z' st hQ
  subst l' y' z'
  exact hs.go (fun _ q => st.trans q) (k v T' T'.heap ⟨_, X', Fr.app N hN, rfl⟩ hQ)
theorem rCallV (hs : Clo p e below G) (X : Sd p l e R s m args below meth c n0 T h cells slots) (hx : p.tables.exec = Jvm.exec) (hZ : Z.Warmed39 s.vm) {own C : String} {index : Nat} {y : MethodName} {bytes : ByteArray} {maxL : Nat} {ret : Option FieldType} {rm : Room} {a : Addr} {as' : List Value} {Q' : Option Value → Heap → Prop}
    (hM : Con l Z y bytes maxL ret [] rm (Value.ref a :: as').toArray h n0 Q') (E : Exa Z h a C) (hown : s.vm.findClass own = some m.cls) (w1 : (Jvm.Cond.methodLink own index y).before a0 Z = true) (w5 : (Jvm.Cond.declares y).before a0 Z = true) (w6 : (Jvm.Cond.selects C y y).before a0 Z = true) (w2 : (Jvm.Cond.instanceMethod y).before a0 Z = true) (w3 : (Jvm.Cond.initialized y.cls).before a0 Z = true) (w4 : (Jvm.Cond.code y bytes maxL ret).before a0 Z = true)
    (hy : y.cls ≠ "java/lang/invoke/MethodHandle" ∧ y.cls ≠ "java/lang/invoke/VarHandle") {g : JFrame} (hg : g.method = m) (hsize : g.locals.size = c.maxLocals) (rest : List Value) (hlen : ∀ sig, parseMethodDescriptor y.desc = some sig → as'.length = sig.parameters.length)
    (hst : g.stack = as'.reverse ++ .ref a :: rest) (W : Nat) (hW : 2 * g.monitorRoom + (rest.map fun v => v.category).sum ≤ W) (hd : decode c.code g.pc = .ok (.invokevirtual index, 3))
    (hf : rm.frames + 1 ≤ R.frames) (hl : W + (maxL + 11) + rm.locals ≤ R.locals) (hc : cells + rm.cells ≤ R.cells) (hsl : slots + rm.slots ≤ R.slots)
    (k : ∀ (v : Option Value) (T' : State) (h' : Heap), Sd p l e R s m args below meth c n0 T' h' (cells + rm.cells) (slots + rm.slots) → Q' v h' → G T' { g with pc := g.pc + 3, stack := v.toList ++ rest }) : G T g := by
  obtain ⟨L, X, N, eh⟩ := X
  obtain ⟨cB, kB, qa, qb, qc⟩ := isOf (T := T) hZ eh E
  obtain ⟨v, vm₁, ⟨T', L', k', n'⟩, -, X', ⟨Lc, ⟨hQ, hN⟩, l', y', z'⟩, st⟩ := X.virtualBack hx (y := y) (z := y) hown (mvT hZ w1) (mvT hZ w5) (notFace_of_selects (args := #[]) (mvT hZ w6)) (mvT hZ w6) (mvT hZ w2) hy (backOf (Q := fun v h L => Q' v h ∧ Fr n0 L) (W := W) hM hZ w4 w3 hf hl) qa qc hg hsize (Steps.refl _) (argsL := as') (rest := rest) hlen hst hW hd (fun _ _ => ⟨rfl, eh, hc, hsl⟩)
  dsimp only [Pt.U, Pt.locs, Pt.cells, Pt.slots] at X' l' y' z' st hQ
  subst l' y' z'
  exact hs.go (fun _ q => st.trans q) (k v T' T'.heap ⟨_, X', Fr.app N hN, rfl⟩ hQ)
/-! branches -/
theorem ltL {x y : Int64} (h : x < y) : if_icmp.holds .lt (lcmpW x y) 0 = true ∧ if_icmp.holds .ge (lcmpW x y) 0 = false := have q := tlt ((lw_lt x y).mpr h); ⟨q.1, q.2.1⟩
theorem nltL {x y : Int64} (h : ¬ x < y) : if_icmp.holds .lt (lcmpW x y) 0 = false ∧ if_icmp.holds .ge (lcmpW x y) 0 = true := have q := flt (fun z => h ((lw_lt x y).mp z)); ⟨q.1, q.2.1⟩
theorem gtL {x y : Int64} (h : y < x) : if_icmp.holds .gt (lcmpW x y) 0 = true ∧ if_icmp.holds .le (lcmpW x y) 0 = false := have q := tlt ((lw_gt x y).mpr h); ⟨q.2.2.1, q.2.2.2⟩
theorem ngtL {x y : Int64} (h : ¬ y < x) : if_icmp.holds .gt (lcmpW x y) 0 = false ∧ if_icmp.holds .le (lcmpW x y) 0 = true := have q := flt (fun z => h ((lw_gt x y).mp z)); ⟨q.2.2.1, q.2.2.2⟩
theorem eqL {x y : Int64} (h : x = y) : if_icmp.holds .eq (lcmpW x y) 0 = true ∧ if_icmp.holds .ne (lcmpW x y) 0 = false := teq ((lw_eq x y).mpr h)
theorem neqL {x y : Int64} (h : ¬ x = y) : if_icmp.holds .eq (lcmpW x y) 0 = false ∧ if_icmp.holds .ne (lcmpW x y) 0 = true := feq (fun z => h ((lw_eq x y).mp z))
theorem nameIt {α : Type} {P : α → Prop} (x : α) (k : ∀ z, z = x → P z) : P x := k x rfl
theorem eq64 {x y : Int64} (h : x.toInt = y.toInt) : x = y := Int64.toInt_inj.mp h
theorem eq32 {x y : Int32} (h : x.toInt = y.toInt) : x = y := Int32.toInt_inj.mp h
theorem lt64 {x y : Int64} : x < y ↔ x.toInt < y.toInt := Int64.lt_iff_toInt_lt
theorem lt32 {x y : Int32} : x < y ↔ x.toInt < y.toInt := Int32.lt_iff_toInt_lt
theorem e64 {x y : Int64} : x = y ↔ x.toInt = y.toInt := Int64.toInt_inj.symm
theorem e32 {x y : Int32} : x = y ↔ x.toInt = y.toInt := Int32.toInt_inj.symm
theorem c_lremM (x y : Int64) (d : Int) (hy : y.toInt = d) : (0 ≤ x.toInt → (x % y).toInt = x.toInt % d) ∧ (x.toInt < 0 → (x % y).toInt = -((-x.toInt) % d)) := by rw [Int64.toInt_mod, hy]; exact tr _ _
theorem nar_byte (x : Int32) : x.toInt8.toInt32.toInt8.toInt32 = x.toInt8.toInt32 := by simp
end OwnKit

def f1 (w : Int64) : Int32 := (if ((w.toUInt64 >>> ((7 : Int32) &&& 0x3f).toInt64.toUInt64).toInt64) = (0 : Int64) then (1 : Int32) else (if ((w.toUInt64 >>> ((14 : Int32) &&& 0x3f).toInt64.toUInt64).toInt64) = (0 : Int64) then (2 : Int32) else (if ((w.toUInt64 >>> ((21 : Int32) &&& 0x3f).toInt64.toUInt64).toInt64) = (0 : Int64) then (3 : Int32) else (if ((w.toUInt64 >>> ((28 : Int32) &&& 0x3f).toInt64.toUInt64).toInt64) = (0 : Int64) then (4 : Int32) else (if ((w.toUInt64 >>> ((35 : Int32) &&& 0x3f).toInt64.toUInt64).toInt64) = (0 : Int64) then (5 : Int32) else (if ((w.toUInt64 >>> ((42 : Int32) &&& 0x3f).toInt64.toUInt64).toInt64) = (0 : Int64) then (6 : Int32) else (if ((w.toUInt64 >>> ((49 : Int32) &&& 0x3f).toInt64.toUInt64).toInt64) = (0 : Int64) then (7 : Int32) else (if ((w.toUInt64 >>> ((56 : Int32) &&& 0x3f).toInt64.toUInt64).toInt64) = (0 : Int64) then (8 : Int32) else (if ((w.toUInt64 >>> ((63 : Int32) &&& 0x3f).toInt64.toUInt64).toInt64) = (0 : Int64) then (9 : Int32) else (10 : Int32))))))))))
theorem d1_0 : decode method_2_code 0 = .ok (.lload_n 0, 1) := by decide +kernel
theorem d1_1 : decode method_2_code 1 = .ok (.bipush 7, 2) := by decide +kernel
theorem d1_3 : decode method_2_code 3 = .ok (.lushr, 1) := by decide +kernel
theorem d1_4 : decode method_2_code 4 = .ok (.lconst 0, 1) := by decide +kernel
theorem d1_5 : decode method_2_code 5 = .ok (.lcmp, 1) := by decide +kernel
theorem d1_6 : decode method_2_code 6 = .ok (.ifCond .ne 5, 3) := by decide +kernel
theorem d1_9 : decode method_2_code 9 = .ok (.iconst 1, 1) := by decide +kernel
theorem d1_10 : decode method_2_code 10 = .ok (.ireturn, 1) := by decide +kernel
theorem d1_11 : decode method_2_code 11 = .ok (.lload_n 0, 1) := by decide +kernel
theorem d1_12 : decode method_2_code 12 = .ok (.bipush 14, 2) := by decide +kernel
theorem d1_14 : decode method_2_code 14 = .ok (.lushr, 1) := by decide +kernel
theorem d1_15 : decode method_2_code 15 = .ok (.lconst 0, 1) := by decide +kernel
theorem d1_16 : decode method_2_code 16 = .ok (.lcmp, 1) := by decide +kernel
theorem d1_17 : decode method_2_code 17 = .ok (.ifCond .ne 5, 3) := by decide +kernel
theorem d1_20 : decode method_2_code 20 = .ok (.iconst 2, 1) := by decide +kernel
theorem d1_21 : decode method_2_code 21 = .ok (.ireturn, 1) := by decide +kernel
theorem d1_22 : decode method_2_code 22 = .ok (.lload_n 0, 1) := by decide +kernel
theorem d1_23 : decode method_2_code 23 = .ok (.bipush 21, 2) := by decide +kernel
theorem d1_25 : decode method_2_code 25 = .ok (.lushr, 1) := by decide +kernel
theorem d1_26 : decode method_2_code 26 = .ok (.lconst 0, 1) := by decide +kernel
theorem d1_27 : decode method_2_code 27 = .ok (.lcmp, 1) := by decide +kernel
theorem d1_28 : decode method_2_code 28 = .ok (.ifCond .ne 5, 3) := by decide +kernel
theorem d1_31 : decode method_2_code 31 = .ok (.iconst 3, 1) := by decide +kernel
theorem d1_32 : decode method_2_code 32 = .ok (.ireturn, 1) := by decide +kernel
theorem d1_33 : decode method_2_code 33 = .ok (.lload_n 0, 1) := by decide +kernel
theorem d1_34 : decode method_2_code 34 = .ok (.bipush 28, 2) := by decide +kernel
theorem d1_36 : decode method_2_code 36 = .ok (.lushr, 1) := by decide +kernel
theorem d1_37 : decode method_2_code 37 = .ok (.lconst 0, 1) := by decide +kernel
theorem d1_38 : decode method_2_code 38 = .ok (.lcmp, 1) := by decide +kernel
theorem d1_39 : decode method_2_code 39 = .ok (.ifCond .ne 5, 3) := by decide +kernel
theorem d1_42 : decode method_2_code 42 = .ok (.iconst 4, 1) := by decide +kernel
theorem d1_43 : decode method_2_code 43 = .ok (.ireturn, 1) := by decide +kernel
theorem d1_44 : decode method_2_code 44 = .ok (.lload_n 0, 1) := by decide +kernel
theorem d1_45 : decode method_2_code 45 = .ok (.bipush 35, 2) := by decide +kernel
theorem d1_47 : decode method_2_code 47 = .ok (.lushr, 1) := by decide +kernel
theorem d1_48 : decode method_2_code 48 = .ok (.lconst 0, 1) := by decide +kernel
theorem d1_49 : decode method_2_code 49 = .ok (.lcmp, 1) := by decide +kernel
theorem d1_50 : decode method_2_code 50 = .ok (.ifCond .ne 5, 3) := by decide +kernel
theorem d1_53 : decode method_2_code 53 = .ok (.iconst 5, 1) := by decide +kernel
theorem d1_54 : decode method_2_code 54 = .ok (.ireturn, 1) := by decide +kernel
theorem d1_55 : decode method_2_code 55 = .ok (.lload_n 0, 1) := by decide +kernel
theorem d1_56 : decode method_2_code 56 = .ok (.bipush 42, 2) := by decide +kernel
theorem d1_58 : decode method_2_code 58 = .ok (.lushr, 1) := by decide +kernel
theorem d1_59 : decode method_2_code 59 = .ok (.lconst 0, 1) := by decide +kernel
theorem d1_60 : decode method_2_code 60 = .ok (.lcmp, 1) := by decide +kernel
theorem d1_61 : decode method_2_code 61 = .ok (.ifCond .ne 6, 3) := by decide +kernel
theorem d1_64 : decode method_2_code 64 = .ok (.bipush 6, 2) := by decide +kernel
theorem d1_66 : decode method_2_code 66 = .ok (.ireturn, 1) := by decide +kernel
theorem d1_67 : decode method_2_code 67 = .ok (.lload_n 0, 1) := by decide +kernel
theorem d1_68 : decode method_2_code 68 = .ok (.bipush 49, 2) := by decide +kernel
theorem d1_70 : decode method_2_code 70 = .ok (.lushr, 1) := by decide +kernel
theorem d1_71 : decode method_2_code 71 = .ok (.lconst 0, 1) := by decide +kernel
theorem d1_72 : decode method_2_code 72 = .ok (.lcmp, 1) := by decide +kernel
theorem d1_73 : decode method_2_code 73 = .ok (.ifCond .ne 6, 3) := by decide +kernel
theorem d1_76 : decode method_2_code 76 = .ok (.bipush 7, 2) := by decide +kernel
theorem d1_78 : decode method_2_code 78 = .ok (.ireturn, 1) := by decide +kernel
theorem d1_79 : decode method_2_code 79 = .ok (.lload_n 0, 1) := by decide +kernel
theorem d1_80 : decode method_2_code 80 = .ok (.bipush 56, 2) := by decide +kernel
theorem d1_82 : decode method_2_code 82 = .ok (.lushr, 1) := by decide +kernel
theorem d1_83 : decode method_2_code 83 = .ok (.lconst 0, 1) := by decide +kernel
theorem d1_84 : decode method_2_code 84 = .ok (.lcmp, 1) := by decide +kernel
theorem d1_85 : decode method_2_code 85 = .ok (.ifCond .ne 6, 3) := by decide +kernel
theorem d1_88 : decode method_2_code 88 = .ok (.bipush 8, 2) := by decide +kernel
theorem d1_90 : decode method_2_code 90 = .ok (.ireturn, 1) := by decide +kernel
theorem d1_91 : decode method_2_code 91 = .ok (.lload_n 0, 1) := by decide +kernel
theorem d1_92 : decode method_2_code 92 = .ok (.bipush 63, 2) := by decide +kernel
theorem d1_94 : decode method_2_code 94 = .ok (.lushr, 1) := by decide +kernel
theorem d1_95 : decode method_2_code 95 = .ok (.lconst 0, 1) := by decide +kernel
theorem d1_96 : decode method_2_code 96 = .ok (.lcmp, 1) := by decide +kernel
theorem d1_97 : decode method_2_code 97 = .ok (.ifCond .ne 6, 3) := by decide +kernel
theorem d1_100 : decode method_2_code 100 = .ok (.bipush 9, 2) := by decide +kernel
theorem d1_102 : decode method_2_code 102 = .ok (.ireturn, 1) := by decide +kernel
theorem d1_103 : decode method_2_code 103 = .ok (.bipush 10, 2) := by decide +kernel
theorem d1_105 : decode method_2_code 105 = .ok (.ireturn, 1) := by decide +kernel
theorem pn_1 : plainFor (⟨"com/example/ranked_odds/rankedodds/index/IndexFormatEncodeNumberPinLaw", "count", "(J)I"⟩ : MethodName) = true := plainFor_of_name (by first | (simp [plainName, overriddenIn]; done) | decide +kernel)
theorem ef_1 (m : MethodId) (x0 : Int64) : entryFrame m #[(.long x0)] 2 = mkF m 0 #[.val (.long x0), .second] [] := by first | (simp [entryFrame, mkF, argsToLocals, Value.category]; done) | rfl
theorem hy_1 : ((⟨"com/example/ranked_odds/rankedodds/index/IndexFormatEncodeNumberPinLaw", "count", "(J)I"⟩ : MethodName)).cls ≠ "java/lang/invoke/MethodHandle" ∧ ((⟨"com/example/ranked_odds/rankedodds/index/IndexFormatEncodeNumberPinLaw", "count", "(J)I"⟩ : MethodName)).cls ≠ "java/lang/invoke/VarHandle" := by decide
set_option maxRecDepth 65536 in
set_option maxHeartbeats 40000000 in
theorem rm1 (l : Launch) (Z : State) (a0 : Array Value) (hw : ∀ d ∈ tables_1, d.before a0 Z = true) (ws : List Jvm.Cond) (w : Int64) (h0 : Heap) (n0 : Nat) (Z0 : n0 ≤ h0.size)  :
    Con l Z (⟨"com/example/ranked_odds/rankedodds/index/IndexFormatEncodeNumberPinLaw", "count", "(J)I"⟩ : MethodName) method_2_code 2 (some .int) ws ({ frames := 0, cells := 0, slots := 0, locals := 0 } : Room) #[(.long w)] h0 n0 (fun v h => v = some (.int (f1 w)) ∧ h = h0) := by
  refine Con.of pn_1 ?_
  intro G p e s m below meth c s₁ hs hx hby hml hown hnm hret hZ X0 fin
  have hml : c.maxLocals = 2 := hml
  have hown : s.vm.findClass "com/example/ranked_odds/rankedodds/index/IndexFormatEncodeNumberPinLaw" = some m.cls := hown
  rw [ef_1]
  show G s₁ (mkF m 0 #[.val (.long w), .second] [])
  refine hs.go (fun _ kk_ => XS.lloadN X0.here hx rfl (hb hby d1_0) rfl  kk_) ?_
  show G s₁ (mkF m 1 #[.val (.long w), .second] [(.long w)])
  refine hs.go (fun _ kk_ => XS.bipush X0.here hx rfl (hb hby d1_1) kk_) ?_
  show G s₁ (mkF m 3 #[.val (.long w), .second] [(.int (7 : Int32)), (.long w)])
  refine hs.go (fun _ kk_ => XS.lushr X0.here hx rfl (hb hby d1_3) rfl kk_) ?_
  show G s₁ (mkF m 4 #[.val (.long w), .second] [(.long ((w.toUInt64 >>> ((7 : Int32) &&& 0x3f).toInt64.toUInt64).toInt64))])
  refine hs.go (fun _ kk_ => XS.lconst X0.here hx rfl (hb hby d1_4) kk_) ?_
  show G s₁ (mkF m 5 #[.val (.long w), .second] [(.long (0 : Int64)), (.long ((w.toUInt64 >>> ((7 : Int32) &&& 0x3f).toInt64.toUInt64).toInt64))])
  refine hs.go (fun _ kk_ => XS.lcmp X0.here hx rfl (hb hby d1_5) rfl kk_) ?_
  show G s₁ (mkF m 6 #[.val (.long w), .second] [(.int (lcmpW ((w.toUInt64 >>> ((7 : Int32) &&& 0x3f).toInt64.toUInt64).toInt64) (0 : Int64)))])
  by_cases c6 : ((w.toUInt64 >>> ((7 : Int32) &&& 0x3f).toInt64.toUInt64).toInt64) = (0 : Int64)
  · refine hs.go (fun _ kk_ => XS.ifNo X0.here hx rfl (hb hby d1_6) rfl ((if0 _ _).trans (eqL c6).2) kk_) ?_
    show G s₁ (mkF m 9 #[.val (.long w), .second] [])
    refine hs.go (fun _ kk_ => XS.iconst X0.here hx rfl (hb hby d1_9) kk_) ?_
    show G s₁ (mkF m 10 #[.val (.long w), .second] [(.int (1 : Int32))])
    exact rRetI fin X0 hx (by decide) (by decide) hret (hb hby d1_10) ⟨by rw [f1, if_pos c6], rfl⟩
  · refine hs.go (fun _ kk_ => XS.ifYes X0.here hx rfl (pc0 := 6) (pc' := 11) rfl (hb hby d1_6) rfl ((if0 _ _).trans (neqL c6).2) (by decide) (by decide) kk_) ?_
    show G s₁ (mkF m 11 #[.val (.long w), .second] [])
    refine hs.go (fun _ kk_ => XS.lloadN X0.here hx rfl (hb hby d1_11) rfl  kk_) ?_
    show G s₁ (mkF m 12 #[.val (.long w), .second] [(.long w)])
    refine hs.go (fun _ kk_ => XS.bipush X0.here hx rfl (hb hby d1_12) kk_) ?_
    show G s₁ (mkF m 14 #[.val (.long w), .second] [(.int (14 : Int32)), (.long w)])
    refine hs.go (fun _ kk_ => XS.lushr X0.here hx rfl (hb hby d1_14) rfl kk_) ?_
    show G s₁ (mkF m 15 #[.val (.long w), .second] [(.long ((w.toUInt64 >>> ((14 : Int32) &&& 0x3f).toInt64.toUInt64).toInt64))])
    refine hs.go (fun _ kk_ => XS.lconst X0.here hx rfl (hb hby d1_15) kk_) ?_
    show G s₁ (mkF m 16 #[.val (.long w), .second] [(.long (0 : Int64)), (.long ((w.toUInt64 >>> ((14 : Int32) &&& 0x3f).toInt64.toUInt64).toInt64))])
    refine hs.go (fun _ kk_ => XS.lcmp X0.here hx rfl (hb hby d1_16) rfl kk_) ?_
    show G s₁ (mkF m 17 #[.val (.long w), .second] [(.int (lcmpW ((w.toUInt64 >>> ((14 : Int32) &&& 0x3f).toInt64.toUInt64).toInt64) (0 : Int64)))])
    by_cases c17 : ((w.toUInt64 >>> ((14 : Int32) &&& 0x3f).toInt64.toUInt64).toInt64) = (0 : Int64)
    · refine hs.go (fun _ kk_ => XS.ifNo X0.here hx rfl (hb hby d1_17) rfl ((if0 _ _).trans (eqL c17).2) kk_) ?_
      show G s₁ (mkF m 20 #[.val (.long w), .second] [])
      refine hs.go (fun _ kk_ => XS.iconst X0.here hx rfl (hb hby d1_20) kk_) ?_
      show G s₁ (mkF m 21 #[.val (.long w), .second] [(.int (2 : Int32))])
      exact rRetI fin X0 hx (by decide) (by decide) hret (hb hby d1_21) ⟨by rw [f1, if_neg c6, if_pos c17], rfl⟩
    · refine hs.go (fun _ kk_ => XS.ifYes X0.here hx rfl (pc0 := 17) (pc' := 22) rfl (hb hby d1_17) rfl ((if0 _ _).trans (neqL c17).2) (by decide) (by decide) kk_) ?_
      show G s₁ (mkF m 22 #[.val (.long w), .second] [])
      refine hs.go (fun _ kk_ => XS.lloadN X0.here hx rfl (hb hby d1_22) rfl  kk_) ?_
      show G s₁ (mkF m 23 #[.val (.long w), .second] [(.long w)])
      refine hs.go (fun _ kk_ => XS.bipush X0.here hx rfl (hb hby d1_23) kk_) ?_
      show G s₁ (mkF m 25 #[.val (.long w), .second] [(.int (21 : Int32)), (.long w)])
      refine hs.go (fun _ kk_ => XS.lushr X0.here hx rfl (hb hby d1_25) rfl kk_) ?_
      show G s₁ (mkF m 26 #[.val (.long w), .second] [(.long ((w.toUInt64 >>> ((21 : Int32) &&& 0x3f).toInt64.toUInt64).toInt64))])
      refine hs.go (fun _ kk_ => XS.lconst X0.here hx rfl (hb hby d1_26) kk_) ?_
      show G s₁ (mkF m 27 #[.val (.long w), .second] [(.long (0 : Int64)), (.long ((w.toUInt64 >>> ((21 : Int32) &&& 0x3f).toInt64.toUInt64).toInt64))])
      refine hs.go (fun _ kk_ => XS.lcmp X0.here hx rfl (hb hby d1_27) rfl kk_) ?_
      show G s₁ (mkF m 28 #[.val (.long w), .second] [(.int (lcmpW ((w.toUInt64 >>> ((21 : Int32) &&& 0x3f).toInt64.toUInt64).toInt64) (0 : Int64)))])
      by_cases c28 : ((w.toUInt64 >>> ((21 : Int32) &&& 0x3f).toInt64.toUInt64).toInt64) = (0 : Int64)
      · refine hs.go (fun _ kk_ => XS.ifNo X0.here hx rfl (hb hby d1_28) rfl ((if0 _ _).trans (eqL c28).2) kk_) ?_
        show G s₁ (mkF m 31 #[.val (.long w), .second] [])
        refine hs.go (fun _ kk_ => XS.iconst X0.here hx rfl (hb hby d1_31) kk_) ?_
        show G s₁ (mkF m 32 #[.val (.long w), .second] [(.int (3 : Int32))])
        exact rRetI fin X0 hx (by decide) (by decide) hret (hb hby d1_32) ⟨by rw [f1, if_neg c6, if_neg c17, if_pos c28], rfl⟩
      · refine hs.go (fun _ kk_ => XS.ifYes X0.here hx rfl (pc0 := 28) (pc' := 33) rfl (hb hby d1_28) rfl ((if0 _ _).trans (neqL c28).2) (by decide) (by decide) kk_) ?_
        show G s₁ (mkF m 33 #[.val (.long w), .second] [])
        refine hs.go (fun _ kk_ => XS.lloadN X0.here hx rfl (hb hby d1_33) rfl  kk_) ?_
        show G s₁ (mkF m 34 #[.val (.long w), .second] [(.long w)])
        refine hs.go (fun _ kk_ => XS.bipush X0.here hx rfl (hb hby d1_34) kk_) ?_
        show G s₁ (mkF m 36 #[.val (.long w), .second] [(.int (28 : Int32)), (.long w)])
        refine hs.go (fun _ kk_ => XS.lushr X0.here hx rfl (hb hby d1_36) rfl kk_) ?_
        show G s₁ (mkF m 37 #[.val (.long w), .second] [(.long ((w.toUInt64 >>> ((28 : Int32) &&& 0x3f).toInt64.toUInt64).toInt64))])
        refine hs.go (fun _ kk_ => XS.lconst X0.here hx rfl (hb hby d1_37) kk_) ?_
        show G s₁ (mkF m 38 #[.val (.long w), .second] [(.long (0 : Int64)), (.long ((w.toUInt64 >>> ((28 : Int32) &&& 0x3f).toInt64.toUInt64).toInt64))])
        refine hs.go (fun _ kk_ => XS.lcmp X0.here hx rfl (hb hby d1_38) rfl kk_) ?_
        show G s₁ (mkF m 39 #[.val (.long w), .second] [(.int (lcmpW ((w.toUInt64 >>> ((28 : Int32) &&& 0x3f).toInt64.toUInt64).toInt64) (0 : Int64)))])
        by_cases c39 : ((w.toUInt64 >>> ((28 : Int32) &&& 0x3f).toInt64.toUInt64).toInt64) = (0 : Int64)
        · refine hs.go (fun _ kk_ => XS.ifNo X0.here hx rfl (hb hby d1_39) rfl ((if0 _ _).trans (eqL c39).2) kk_) ?_
          show G s₁ (mkF m 42 #[.val (.long w), .second] [])
          refine hs.go (fun _ kk_ => XS.iconst X0.here hx rfl (hb hby d1_42) kk_) ?_
          show G s₁ (mkF m 43 #[.val (.long w), .second] [(.int (4 : Int32))])
          exact rRetI fin X0 hx (by decide) (by decide) hret (hb hby d1_43) ⟨by rw [f1, if_neg c6, if_neg c17, if_neg c28, if_pos c39], rfl⟩
        · refine hs.go (fun _ kk_ => XS.ifYes X0.here hx rfl (pc0 := 39) (pc' := 44) rfl (hb hby d1_39) rfl ((if0 _ _).trans (neqL c39).2) (by decide) (by decide) kk_) ?_
          show G s₁ (mkF m 44 #[.val (.long w), .second] [])
          refine hs.go (fun _ kk_ => XS.lloadN X0.here hx rfl (hb hby d1_44) rfl  kk_) ?_
          show G s₁ (mkF m 45 #[.val (.long w), .second] [(.long w)])
          refine hs.go (fun _ kk_ => XS.bipush X0.here hx rfl (hb hby d1_45) kk_) ?_
          show G s₁ (mkF m 47 #[.val (.long w), .second] [(.int (35 : Int32)), (.long w)])
          refine hs.go (fun _ kk_ => XS.lushr X0.here hx rfl (hb hby d1_47) rfl kk_) ?_
          show G s₁ (mkF m 48 #[.val (.long w), .second] [(.long ((w.toUInt64 >>> ((35 : Int32) &&& 0x3f).toInt64.toUInt64).toInt64))])
          refine hs.go (fun _ kk_ => XS.lconst X0.here hx rfl (hb hby d1_48) kk_) ?_
          show G s₁ (mkF m 49 #[.val (.long w), .second] [(.long (0 : Int64)), (.long ((w.toUInt64 >>> ((35 : Int32) &&& 0x3f).toInt64.toUInt64).toInt64))])
          refine hs.go (fun _ kk_ => XS.lcmp X0.here hx rfl (hb hby d1_49) rfl kk_) ?_
          show G s₁ (mkF m 50 #[.val (.long w), .second] [(.int (lcmpW ((w.toUInt64 >>> ((35 : Int32) &&& 0x3f).toInt64.toUInt64).toInt64) (0 : Int64)))])
          by_cases c50 : ((w.toUInt64 >>> ((35 : Int32) &&& 0x3f).toInt64.toUInt64).toInt64) = (0 : Int64)
          · refine hs.go (fun _ kk_ => XS.ifNo X0.here hx rfl (hb hby d1_50) rfl ((if0 _ _).trans (eqL c50).2) kk_) ?_
            show G s₁ (mkF m 53 #[.val (.long w), .second] [])
            refine hs.go (fun _ kk_ => XS.iconst X0.here hx rfl (hb hby d1_53) kk_) ?_
            show G s₁ (mkF m 54 #[.val (.long w), .second] [(.int (5 : Int32))])
            exact rRetI fin X0 hx (by decide) (by decide) hret (hb hby d1_54) ⟨by rw [f1, if_neg c6, if_neg c17, if_neg c28, if_neg c39, if_pos c50], rfl⟩
          · refine hs.go (fun _ kk_ => XS.ifYes X0.here hx rfl (pc0 := 50) (pc' := 55) rfl (hb hby d1_50) rfl ((if0 _ _).trans (neqL c50).2) (by decide) (by decide) kk_) ?_
            show G s₁ (mkF m 55 #[.val (.long w), .second] [])
            refine hs.go (fun _ kk_ => XS.lloadN X0.here hx rfl (hb hby d1_55) rfl  kk_) ?_
            show G s₁ (mkF m 56 #[.val (.long w), .second] [(.long w)])
            refine hs.go (fun _ kk_ => XS.bipush X0.here hx rfl (hb hby d1_56) kk_) ?_
            show G s₁ (mkF m 58 #[.val (.long w), .second] [(.int (42 : Int32)), (.long w)])
            refine hs.go (fun _ kk_ => XS.lushr X0.here hx rfl (hb hby d1_58) rfl kk_) ?_
            show G s₁ (mkF m 59 #[.val (.long w), .second] [(.long ((w.toUInt64 >>> ((42 : Int32) &&& 0x3f).toInt64.toUInt64).toInt64))])
            refine hs.go (fun _ kk_ => XS.lconst X0.here hx rfl (hb hby d1_59) kk_) ?_
            show G s₁ (mkF m 60 #[.val (.long w), .second] [(.long (0 : Int64)), (.long ((w.toUInt64 >>> ((42 : Int32) &&& 0x3f).toInt64.toUInt64).toInt64))])
            refine hs.go (fun _ kk_ => XS.lcmp X0.here hx rfl (hb hby d1_60) rfl kk_) ?_
            show G s₁ (mkF m 61 #[.val (.long w), .second] [(.int (lcmpW ((w.toUInt64 >>> ((42 : Int32) &&& 0x3f).toInt64.toUInt64).toInt64) (0 : Int64)))])
            by_cases c61 : ((w.toUInt64 >>> ((42 : Int32) &&& 0x3f).toInt64.toUInt64).toInt64) = (0 : Int64)
            · refine hs.go (fun _ kk_ => XS.ifNo X0.here hx rfl (hb hby d1_61) rfl ((if0 _ _).trans (eqL c61).2) kk_) ?_
              show G s₁ (mkF m 64 #[.val (.long w), .second] [])
              refine hs.go (fun _ kk_ => XS.bipush X0.here hx rfl (hb hby d1_64) kk_) ?_
              show G s₁ (mkF m 66 #[.val (.long w), .second] [(.int (6 : Int32))])
              exact rRetI fin X0 hx (by decide) (by decide) hret (hb hby d1_66) ⟨by rw [f1, if_neg c6, if_neg c17, if_neg c28, if_neg c39, if_neg c50, if_pos c61], rfl⟩
            · refine hs.go (fun _ kk_ => XS.ifYes X0.here hx rfl (pc0 := 61) (pc' := 67) rfl (hb hby d1_61) rfl ((if0 _ _).trans (neqL c61).2) (by decide) (by decide) kk_) ?_
              show G s₁ (mkF m 67 #[.val (.long w), .second] [])
              refine hs.go (fun _ kk_ => XS.lloadN X0.here hx rfl (hb hby d1_67) rfl  kk_) ?_
              show G s₁ (mkF m 68 #[.val (.long w), .second] [(.long w)])
              refine hs.go (fun _ kk_ => XS.bipush X0.here hx rfl (hb hby d1_68) kk_) ?_
              show G s₁ (mkF m 70 #[.val (.long w), .second] [(.int (49 : Int32)), (.long w)])
              refine hs.go (fun _ kk_ => XS.lushr X0.here hx rfl (hb hby d1_70) rfl kk_) ?_
              show G s₁ (mkF m 71 #[.val (.long w), .second] [(.long ((w.toUInt64 >>> ((49 : Int32) &&& 0x3f).toInt64.toUInt64).toInt64))])
              refine hs.go (fun _ kk_ => XS.lconst X0.here hx rfl (hb hby d1_71) kk_) ?_
              show G s₁ (mkF m 72 #[.val (.long w), .second] [(.long (0 : Int64)), (.long ((w.toUInt64 >>> ((49 : Int32) &&& 0x3f).toInt64.toUInt64).toInt64))])
              refine hs.go (fun _ kk_ => XS.lcmp X0.here hx rfl (hb hby d1_72) rfl kk_) ?_
              show G s₁ (mkF m 73 #[.val (.long w), .second] [(.int (lcmpW ((w.toUInt64 >>> ((49 : Int32) &&& 0x3f).toInt64.toUInt64).toInt64) (0 : Int64)))])
              by_cases c73 : ((w.toUInt64 >>> ((49 : Int32) &&& 0x3f).toInt64.toUInt64).toInt64) = (0 : Int64)
              · refine hs.go (fun _ kk_ => XS.ifNo X0.here hx rfl (hb hby d1_73) rfl ((if0 _ _).trans (eqL c73).2) kk_) ?_
                show G s₁ (mkF m 76 #[.val (.long w), .second] [])
                refine hs.go (fun _ kk_ => XS.bipush X0.here hx rfl (hb hby d1_76) kk_) ?_
                show G s₁ (mkF m 78 #[.val (.long w), .second] [(.int (7 : Int32))])
                exact rRetI fin X0 hx (by decide) (by decide) hret (hb hby d1_78) ⟨by rw [f1, if_neg c6, if_neg c17, if_neg c28, if_neg c39, if_neg c50, if_neg c61, if_pos c73], rfl⟩
              · refine hs.go (fun _ kk_ => XS.ifYes X0.here hx rfl (pc0 := 73) (pc' := 79) rfl (hb hby d1_73) rfl ((if0 _ _).trans (neqL c73).2) (by decide) (by decide) kk_) ?_
                show G s₁ (mkF m 79 #[.val (.long w), .second] [])
                refine hs.go (fun _ kk_ => XS.lloadN X0.here hx rfl (hb hby d1_79) rfl  kk_) ?_
                show G s₁ (mkF m 80 #[.val (.long w), .second] [(.long w)])
                refine hs.go (fun _ kk_ => XS.bipush X0.here hx rfl (hb hby d1_80) kk_) ?_
                show G s₁ (mkF m 82 #[.val (.long w), .second] [(.int (56 : Int32)), (.long w)])
                refine hs.go (fun _ kk_ => XS.lushr X0.here hx rfl (hb hby d1_82) rfl kk_) ?_
                show G s₁ (mkF m 83 #[.val (.long w), .second] [(.long ((w.toUInt64 >>> ((56 : Int32) &&& 0x3f).toInt64.toUInt64).toInt64))])
                refine hs.go (fun _ kk_ => XS.lconst X0.here hx rfl (hb hby d1_83) kk_) ?_
                show G s₁ (mkF m 84 #[.val (.long w), .second] [(.long (0 : Int64)), (.long ((w.toUInt64 >>> ((56 : Int32) &&& 0x3f).toInt64.toUInt64).toInt64))])
                refine hs.go (fun _ kk_ => XS.lcmp X0.here hx rfl (hb hby d1_84) rfl kk_) ?_
                show G s₁ (mkF m 85 #[.val (.long w), .second] [(.int (lcmpW ((w.toUInt64 >>> ((56 : Int32) &&& 0x3f).toInt64.toUInt64).toInt64) (0 : Int64)))])
                by_cases c85 : ((w.toUInt64 >>> ((56 : Int32) &&& 0x3f).toInt64.toUInt64).toInt64) = (0 : Int64)
                · refine hs.go (fun _ kk_ => XS.ifNo X0.here hx rfl (hb hby d1_85) rfl ((if0 _ _).trans (eqL c85).2) kk_) ?_
                  show G s₁ (mkF m 88 #[.val (.long w), .second] [])
                  refine hs.go (fun _ kk_ => XS.bipush X0.here hx rfl (hb hby d1_88) kk_) ?_
                  show G s₁ (mkF m 90 #[.val (.long w), .second] [(.int (8 : Int32))])
                  exact rRetI fin X0 hx (by decide) (by decide) hret (hb hby d1_90) ⟨by rw [f1, if_neg c6, if_neg c17, if_neg c28, if_neg c39, if_neg c50, if_neg c61, if_neg c73, if_pos c85], rfl⟩
                · refine hs.go (fun _ kk_ => XS.ifYes X0.here hx rfl (pc0 := 85) (pc' := 91) rfl (hb hby d1_85) rfl ((if0 _ _).trans (neqL c85).2) (by decide) (by decide) kk_) ?_
                  show G s₁ (mkF m 91 #[.val (.long w), .second] [])
                  refine hs.go (fun _ kk_ => XS.lloadN X0.here hx rfl (hb hby d1_91) rfl  kk_) ?_
                  show G s₁ (mkF m 92 #[.val (.long w), .second] [(.long w)])
                  refine hs.go (fun _ kk_ => XS.bipush X0.here hx rfl (hb hby d1_92) kk_) ?_
                  show G s₁ (mkF m 94 #[.val (.long w), .second] [(.int (63 : Int32)), (.long w)])
                  refine hs.go (fun _ kk_ => XS.lushr X0.here hx rfl (hb hby d1_94) rfl kk_) ?_
                  show G s₁ (mkF m 95 #[.val (.long w), .second] [(.long ((w.toUInt64 >>> ((63 : Int32) &&& 0x3f).toInt64.toUInt64).toInt64))])
                  refine hs.go (fun _ kk_ => XS.lconst X0.here hx rfl (hb hby d1_95) kk_) ?_
                  show G s₁ (mkF m 96 #[.val (.long w), .second] [(.long (0 : Int64)), (.long ((w.toUInt64 >>> ((63 : Int32) &&& 0x3f).toInt64.toUInt64).toInt64))])
                  refine hs.go (fun _ kk_ => XS.lcmp X0.here hx rfl (hb hby d1_96) rfl kk_) ?_
                  show G s₁ (mkF m 97 #[.val (.long w), .second] [(.int (lcmpW ((w.toUInt64 >>> ((63 : Int32) &&& 0x3f).toInt64.toUInt64).toInt64) (0 : Int64)))])
                  by_cases c97 : ((w.toUInt64 >>> ((63 : Int32) &&& 0x3f).toInt64.toUInt64).toInt64) = (0 : Int64)
                  · refine hs.go (fun _ kk_ => XS.ifNo X0.here hx rfl (hb hby d1_97) rfl ((if0 _ _).trans (eqL c97).2) kk_) ?_
                    show G s₁ (mkF m 100 #[.val (.long w), .second] [])
                    refine hs.go (fun _ kk_ => XS.bipush X0.here hx rfl (hb hby d1_100) kk_) ?_
                    show G s₁ (mkF m 102 #[.val (.long w), .second] [(.int (9 : Int32))])
                    exact rRetI fin X0 hx (by decide) (by decide) hret (hb hby d1_102) ⟨by rw [f1, if_neg c6, if_neg c17, if_neg c28, if_neg c39, if_neg c50, if_neg c61, if_neg c73, if_neg c85, if_pos c97], rfl⟩
                  · refine hs.go (fun _ kk_ => XS.ifYes X0.here hx rfl (pc0 := 97) (pc' := 103) rfl (hb hby d1_97) rfl ((if0 _ _).trans (neqL c97).2) (by decide) (by decide) kk_) ?_
                    show G s₁ (mkF m 103 #[.val (.long w), .second] [])
                    refine hs.go (fun _ kk_ => XS.bipush X0.here hx rfl (hb hby d1_103) kk_) ?_
                    show G s₁ (mkF m 105 #[.val (.long w), .second] [(.int (10 : Int32))])
                    exact rRetI fin X0 hx (by decide) (by decide) hret (hb hby d1_105) ⟨by rw [f1, if_neg c6, if_neg c17, if_neg c28, if_neg c39, if_neg c50, if_neg c61, if_neg c73, if_neg c85, if_neg c97], rfl⟩

def lu (w : Int64) : Int64 := ((w.toUInt64 >>> ((7 : Int32) &&& 0x3f).toInt64.toUInt64).toInt64)
def hiB (w : Int64) : Int32 := ((((w &&& (127 : Int64)) ||| (128 : Int64)).toInt32).toInt8.toInt32)
def loB (w : Int64) : Int32 := ((w.toInt32).toInt8.toInt32)
def luN : Nat → Int64 → Int64
  | 0, w => w
  | t + 1, w => luN t (lu w)
def encL : Nat → Int64 → Nat → List Int32 → List Int32
  | 0, w, n, us => us.set n (loB w)
  | k + 1, w, n, us => encL k (lu w) (n + 1) (us.set n (hiB w))
def grp : Nat → Int64 → Prop
  | 0, w => (w &&& (-128 : Int64)) = (0 : Int64)
  | k + 1, w => ¬ ((w &&& (-128 : Int64)) = (0 : Int64)) ∧ grp k (lu w)
theorem own_gs (us : List Int32) (n : Nat) (x : Int32) (j : Nat) (h : n < us.length) : (us.set n x).getD j 0 = if j = n then x else us.getD j 0 := by
  simp only [List.getD, List.getElem?_set]
  by_cases c : j = n
  · subst c; simp [h]
  · simp [c, Ne.symm c]
theorem own_get : ∀ (k : Nat) (w : Int64) (n : Nat) (us : List Int32) (j : Nat), n + k < us.length → (encL k w n us).getD j 0 = if j < n then us.getD j 0 else if j < n + k then hiB (luN (j - n) w) else if j = n + k then loB (luN k w) else us.getD j 0 := by
  intro k
  induction k with
  | zero =>
    intro w n us j h
    rw [encL, own_gs us n _ j (by omega)]
    by_cases c1 : j < n
    · rw [if_pos c1, if_neg (by omega)]
    · rw [if_neg c1, if_neg (show ¬ j < n + 0 by omega)]; rfl
  | succ k ih =>
    intro w n us j h
    rw [encL, ih (lu w) (n + 1) _ j (by rw [List.length_set]; omega), own_gs us n _ j (by omega)]
    by_cases c1 : j < n
    · rw [if_pos (show j < n + 1 by omega), if_neg (by omega), if_pos c1]
    · rw [if_neg c1]
      by_cases c2 : j = n
      · rw [if_pos (show j < n + 1 by omega), if_pos c2, if_pos (show j < n + (k + 1) by omega), c2, Nat.sub_self]; rfl
      · rw [if_neg (show ¬ j < n + 1 by omega)]
        by_cases c3 : j < n + (k + 1)
        · rw [if_pos (show j < n + 1 + k by omega), if_pos c3, show j - n = (j - (n + 1)) + 1 by omega]; rfl
        · rw [if_neg (show ¬ j < n + 1 + k by omega), if_neg c3, if_neg c2]
          by_cases c4 : j = n + (k + 1)
          · rw [if_pos (show j = n + 1 + k by omega), if_pos c4]; rfl
          · rw [if_neg (show ¬ j = n + 1 + k by omega), if_neg c4]
def U (w : Int64) : Nat := w.toBitVec.toNat
theorem own_U (w : Int64) : w.toInt % 18446744073709551616 = U w := by
  have h := w.toBitVec.isLt
  show w.toBitVec.toInt % 18446744073709551616 = (w.toBitVec.toNat : Int)
  rw [BitVec.toInt_eq_toNat_cond]
  split <;> omega
theorem own_Ulu (w : Int64) : U (lu w) = U w / 128 := by
  have a : (lu w).toInt = (w.toInt % 18446744073709551616) / 128 := c_lushr w 7 7 (by decide) (by decide)
  have b := own_U w
  have c := own_U (lu w)
  omega
theorem own_UluN : ∀ (t : Nat) (w : Int64), U (luN t w) = U w / 128 ^ t := by
  intro t
  induction t with
  | zero => intro w; simp [luN]
  | succ t ih =>
    intro w
    rw [luN, ih, own_Ulu, Nat.div_div_eq_div_mul, Nat.pow_succ, Nat.mul_comm]
theorem own_inj {a b : Int64} (h : U a = U b) : a = b := by
  have p := own_U a
  have q := own_U b
  have r := rng64 a
  have s := rng64 b
  exact eq64 (by omega)
theorem own_and (w : Int64) : (w &&& (-128 : Int64)) = (0 : Int64) ↔ U w < 128 := by
  have e : (-128 : Int64).toBitVec = BitVec.allOnes 64 <<< 7 := by decide
  have h := w.toBitVec.isLt
  have n : U (w &&& (-128 : Int64)) = U w / 128 * 128 := by
    show (w.toBitVec &&& (-128 : Int64).toBitVec).toNat = w.toBitVec.toNat / 128 * 128
    rw [e, ← BitVec.shiftLeft_ushiftRight, BitVec.toNat_shiftLeft, BitVec.toNat_ushiftRight, Nat.shiftLeft_eq, Nat.shiftRight_eq_div_pow]
    omega
  have z : U (0 : Int64) = 0 := rfl
  constructor
  · intro q; rw [q, z] at n; omega
  · intro q; apply own_inj; rw [n, z]; omega
theorem own_grp : ∀ (k : Nat) (w : Int64), (k = 0 ∨ 128 ^ k ≤ U w) → U w < 128 ^ (k + 1) → grp k w := by
  intro k
  induction k with
  | zero => intro w _ h; exact (own_and w).mpr (by simpa using h)
  | succ k ih =>
    intro w h1 h2
    have a := own_Ulu w
    have p : 0 < 128 ^ k := Nat.pow_pos (by decide)
    rw [Nat.pow_succ, Nat.pow_succ] at h2
    rcases h1 with h1 | h1
    · cases h1
    rw [Nat.pow_succ] at h1
    refine ⟨fun q => ?_, ih (lu w) (Or.inr ?_) ?_⟩
    · have := (own_and w).mp q; omega
    · omega
    · rw [Nat.pow_succ]; omega
theorem own_sh (v : Int64) (q : Int32) (t : Nat) (hq : q.toBitVec.toNat % 64 = 7 * t) : ((v.toUInt64 >>> (q &&& 0x3f).toInt64.toUInt64).toInt64) = luN t v := by
  rcases t with _ | t
  · have e := (sm64 q 0 hq).1
    have z : (q &&& 0x3f).toInt64 = (0 : Int64) := Int64.toBitVec_inj.mp (by rw [e]; rfl)
    rw [z]
    show ((v.toUInt64 >>> (0 : UInt64)).toInt64) = v
    simp
  · have a := c_lushr v q (7 * (t + 1)) hq (by omega)
    apply own_inj
    rw [own_UluN]
    have b := own_U v
    have c := own_U ((v.toUInt64 >>> (q &&& 0x3f).toInt64.toUInt64).toInt64)
    rw [b, Nat.pow_mul, show (2 : Nat) ^ 7 = 128 by decide] at a
    rw [a, ← Int.natCast_ediv] at c
    have l : U v / 128 ^ (t + 1) ≤ U v := Nat.div_le_self _ _
    have h : U v < 18446744073709551616 := v.toBitVec.isLt
    generalize U v / 128 ^ (t + 1) = y at *
    omega
theorem own_z (v : Int64) (q : Int32) (t P : Nat) (hq : q.toBitVec.toNat % 64 = 7 * t) (hP : 128 ^ t = P) : (((v.toUInt64 >>> (q &&& 0x3f).toInt64.toUInt64).toInt64) = (0 : Int64)) ↔ U v < P := by
  have e := own_sh v q t hq
  have d := own_UluN t v
  rw [hP] at d
  have p : 0 < P := by rw [← hP]; exact Nat.pow_pos (by decide)
  rw [e]
  constructor
  · intro z; rw [z] at d; have : U (0 : Int64) = 0 := rfl; exact (Nat.div_eq_zero_iff_lt p).mp (by omega)
  · intro z; apply own_inj; rw [d, Nat.div_eq_of_lt z]; rfl
theorem own_cnt {v : Int64} {n : Int32} (hn : n = f1 v) : ∃ k : Nat, k ≤ 9 ∧ n.toInt = (k + 1 : Nat) ∧ grp k v := by
  have h : U v < 18446744073709551616 := v.toBitVec.isLt
  have z1 := own_z v 7 1 128 (by decide) (by decide)
  have z2 := own_z v 14 2 16384 (by decide) (by decide)
  have z3 := own_z v 21 3 2097152 (by decide) (by decide)
  have z4 := own_z v 28 4 268435456 (by decide) (by decide)
  have z5 := own_z v 35 5 34359738368 (by decide) (by decide)
  have z6 := own_z v 42 6 4398046511104 (by decide) (by decide)
  have z7 := own_z v 49 7 562949953421312 (by decide) (by decide)
  have z8 := own_z v 56 8 72057594037927936 (by decide) (by decide)
  have z9 := own_z v 63 9 9223372036854775808 (by decide) (by decide)
  rw [hn, f1]
  simp only [z1, z2, z3, z4, z5, z6, z7, z8, z9]
  repeat' split
  · exact ⟨0, by decide, rfl, own_grp 0 v (Or.inl rfl) (by simpa using (by assumption))⟩
  · exact ⟨1, by decide, rfl, own_grp 1 v (Or.inr (by simp; omega)) (by simp; omega)⟩
  · exact ⟨2, by decide, rfl, own_grp 2 v (Or.inr (by simp; omega)) (by simp; omega)⟩
  · exact ⟨3, by decide, rfl, own_grp 3 v (Or.inr (by simp; omega)) (by simp; omega)⟩
  · exact ⟨4, by decide, rfl, own_grp 4 v (Or.inr (by simp; omega)) (by simp; omega)⟩
  · exact ⟨5, by decide, rfl, own_grp 5 v (Or.inr (by simp; omega)) (by simp; omega)⟩
  · exact ⟨6, by decide, rfl, own_grp 6 v (Or.inr (by simp; omega)) (by simp; omega)⟩
  · exact ⟨7, by decide, rfl, own_grp 7 v (Or.inr (by simp; omega)) (by simp; omega)⟩
  · exact ⟨8, by decide, rfl, own_grp 8 v (Or.inr (by simp; omega)) (by simp; omega)⟩
  · exact ⟨9, by decide, rfl, own_grp 9 v (Or.inr (by simp; omega)) (by simp; omega)⟩
theorem own_gU : ∀ (k : Nat) (w : Int64), grp k w → U (luN k w) < 128 := by
  intro k
  induction k with
  | zero => intro w h; exact (own_and w).mp h
  | succ k ih => intro w h; exact ih (lu w) h.2
theorem own_gm (us : List Int32) (t : Nat) : (us.map Value.int).getD t (.int (0 : Int32)) = .int (us.getD t 0) := by
  simp only [List.getD, List.getElem?_map]
  cases us[t]? <;> rfl

theorem d2_0 : decode prog_18_method_8_code 0 = .ok (.lload_n 0, 1) := by decide +kernel
theorem d2_1 : decode prog_18_method_8_code 1 = .ok (.lstore 4, 2) := by decide +kernel
theorem d2_3 : decode prog_18_method_8_code 3 = .ok (.iload_n 3, 1) := by decide +kernel
theorem d2_4 : decode prog_18_method_8_code 4 = .ok (.istore 6, 2) := by decide +kernel
theorem d2_6 : decode prog_18_method_8_code 6 = .ok (.lload 4, 2) := by decide +kernel
theorem d2_8 : decode prog_18_method_8_code 8 = .ok (.ldc2_w 160, 3) := by decide +kernel
theorem d2_11 : decode prog_18_method_8_code 11 = .ok (.land, 1) := by decide +kernel
theorem d2_12 : decode prog_18_method_8_code 12 = .ok (.lconst 0, 1) := by decide +kernel
theorem d2_13 : decode prog_18_method_8_code 13 = .ok (.lcmp, 1) := by decide +kernel
theorem d2_14 : decode prog_18_method_8_code 14 = .ok (.ifCond .eq 32, 3) := by decide +kernel
theorem d2_17 : decode prog_18_method_8_code 17 = .ok (.aload_n 2, 1) := by decide +kernel
theorem d2_18 : decode prog_18_method_8_code 18 = .ok (.iload 6, 2) := by decide +kernel
theorem d2_20 : decode prog_18_method_8_code 20 = .ok (.iinc 6 1, 3) := by decide +kernel
theorem d2_23 : decode prog_18_method_8_code 23 = .ok (.lload 4, 2) := by decide +kernel
theorem d2_25 : decode prog_18_method_8_code 25 = .ok (.ldc2_w 162, 3) := by decide +kernel
theorem d2_28 : decode prog_18_method_8_code 28 = .ok (.land, 1) := by decide +kernel
theorem d2_29 : decode prog_18_method_8_code 29 = .ok (.ldc2_w 164, 3) := by decide +kernel
theorem d2_32 : decode prog_18_method_8_code 32 = .ok (.lor, 1) := by decide +kernel
theorem d2_33 : decode prog_18_method_8_code 33 = .ok (.l2i, 1) := by decide +kernel
theorem d2_34 : decode prog_18_method_8_code 34 = .ok (.i2b, 1) := by decide +kernel
theorem d2_35 : decode prog_18_method_8_code 35 = .ok (.bastore, 1) := by decide +kernel
theorem d2_36 : decode prog_18_method_8_code 36 = .ok (.lload 4, 2) := by decide +kernel
theorem d2_38 : decode prog_18_method_8_code 38 = .ok (.bipush 7, 2) := by decide +kernel
theorem d2_40 : decode prog_18_method_8_code 40 = .ok (.lushr, 1) := by decide +kernel
theorem d2_41 : decode prog_18_method_8_code 41 = .ok (.lstore 4, 2) := by decide +kernel
theorem d2_43 : decode prog_18_method_8_code 43 = .ok (.goto (-37), 3) := by decide +kernel
theorem d2_46 : decode prog_18_method_8_code 46 = .ok (.aload_n 2, 1) := by decide +kernel
theorem d2_47 : decode prog_18_method_8_code 47 = .ok (.iload 6, 2) := by decide +kernel
theorem d2_49 : decode prog_18_method_8_code 49 = .ok (.iinc 6 1, 3) := by decide +kernel
theorem d2_52 : decode prog_18_method_8_code 52 = .ok (.lload 4, 2) := by decide +kernel
theorem d2_54 : decode prog_18_method_8_code 54 = .ok (.l2i, 1) := by decide +kernel
theorem d2_55 : decode prog_18_method_8_code 55 = .ok (.i2b, 1) := by decide +kernel
theorem d2_56 : decode prog_18_method_8_code 56 = .ok (.bastore, 1) := by decide +kernel
theorem d2_57 : decode prog_18_method_8_code 57 = .ok (.iload 6, 2) := by decide +kernel
theorem d2_59 : decode prog_18_method_8_code 59 = .ok (.ireturn, 1) := by decide +kernel
theorem pn_2 : plainFor (⟨"com/example/ranked_odds/rankedodds/index/IndexFormat", "encodeNumber", "(J[BI)I"⟩ : MethodName) = true := plainFor_of_name (by first | (simp [plainName, overriddenIn]; done) | decide +kernel)
theorem ef_2 (m : MethodId) (x0 : Int64) (x1 : Addr) (x2 : Int32) : entryFrame m #[(.long x0), (.ref x1), (.int x2)] 7 = mkF m 0 #[.val (.long x0), .second, .val (.ref x1), .val (.int x2), .unset, .unset, .unset] [] := by first | (simp [entryFrame, mkF, argsToLocals, Value.category]; done) | rfl
theorem hy_2 : ((⟨"com/example/ranked_odds/rankedodds/index/IndexFormat", "encodeNumber", "(J[BI)I"⟩ : MethodName)).cls ≠ "java/lang/invoke/MethodHandle" ∧ ((⟨"com/example/ranked_odds/rankedodds/index/IndexFormat", "encodeNumber", "(J[BI)I"⟩ : MethodName)).cls ≠ "java/lang/invoke/VarHandle" := by decide
set_option maxRecDepth 65536 in
set_option maxHeartbeats 40000000 in
theorem rm2 (l : Launch) (Z : State) (a0 : Array Value) (hw : ∀ d ∈ tables_1, d.before a0 Z = true) (ws : List Jvm.Cond) (v : Int64) (a : Addr) (at1 : Int32) (us1 : List Int32) (kc : ClassId) (n1 k1 : Nat) (h0 : Heap) (n0 : Nat) (Z0 : n0 ≤ h0.size) (V_a : Arv Z h0 a kc .byte (14 : Int32) ((us1).map Value.int) (.int (0 : Int32))) (g_a : n0 ≤ a) (hus1 : us1.length = 14) (hn1 : at1.toInt = n1) (h14 : n1 + k1 < 14) (hg1 : grp k1 v) :
    Con l Z (⟨"com/example/ranked_odds/rankedodds/index/IndexFormat", "encodeNumber", "(J[BI)I"⟩ : MethodName) prog_18_method_8_code 7 (some .int) ws ({ frames := 0, cells := 0, slots := 0, locals := 0 } : Room) #[(.long v), (.ref a), (.int at1)] h0 n0 (fun rv h => ∃ r : Int32, rv = some (.int r) ∧ r.toInt = (n1 + k1 + 1 : Nat) ∧ Keep h0 h [a] ∧ Arv Z h a kc .byte (14 : Int32) ((encL k1 v n1 us1).map Value.int) (.int (0 : Int32))) := by
  refine Con.of pn_2 ?_
  intro G p e s m below meth c s₁ hs hx hby hml hown hnm hret hZ X0 fin
  have hml : c.maxLocals = 7 := hml
  have hown : s.vm.findClass "com/example/ranked_odds/rankedodds/index/IndexFormat" = some m.cls := hown
  rw [ef_2]
  have K := Keep.refl h0 ([a] : List Addr)
  have Ksz := K.1
  show G s₁ (mkF m 0 #[.val (.long v), .second, .val (.ref a), .val (.int at1), .unset, .unset, .unset] [])
  refine hs.go (fun _ kk_ => XS.lloadN X0.here hx rfl (hb hby d2_0) rfl  kk_) ?_
  show G s₁ (mkF m 1 #[.val (.long v), .second, .val (.ref a), .val (.int at1), .unset, .unset, .unset] [(.long v)])
  refine hs.go (fun _ kk_ => XS.lstore X0.here hx rfl (hb hby d2_1) rfl (l' := #[.val (.long v), .second, .val (.ref a), .val (.int at1), .val (.long v), .second, .unset]) rfl kk_) ?_
  show G s₁ (mkF m 3 #[.val (.long v), .second, .val (.ref a), .val (.int at1), .val (.long v), .second, .unset] [])
  refine hs.go (fun _ kk_ => XS.iloadN X0.here hx rfl (hb hby d2_3) rfl  kk_) ?_
  show G s₁ (mkF m 4 #[.val (.long v), .second, .val (.ref a), .val (.int at1), .val (.long v), .second, .unset] [(.int at1)])
  refine hs.go (fun _ kk_ => XS.istore X0.here hx rfl (hb hby d2_4) rfl (l' := #[.val (.long v), .second, .val (.ref a), .val (.int at1), .val (.long v), .second, .val (.int at1)]) rfl kk_) ?_
  show G s₁ (mkF m 6 #[.val (.long v), .second, .val (.ref a), .val (.int at1), .val (.long v), .second, .val (.int at1)] [])
  have loop : ∀ (k : Nat) (w : Int64) (i : Int32) (n : Nat) (us : List Int32) (TL : State) (hL : Heap), Sd p l e ({ frames := 0, cells := 0, slots := 0, locals := 0 } : Room) s m #[(.long v), (.ref a), (.int at1)] below meth c n0 TL hL 0 0 → Keep h0 hL [a] → n0 ≤ hL.size → Arv Z hL a kc .byte (14 : Int32) ((us).map Value.int) (.int (0 : Int32)) → us.length = 14 → i.toInt = n → n + k < 14 → n + k = n1 + k1 → grp k w → encL k w n us = encL k1 v n1 us1 → G TL (mkF m 6 #[.val (.long v), .second, .val (.ref a), .val (.int at1), .val (.long w), .second, .val (.int i)] []) := by
    intro k
    induction k with
    | zero =>
      intro w i n us TL hL XL K Z0 V_a hus hi hn14 hnk hg hr
      have Ksz := K.1
      show G TL (mkF m 6 #[.val (.long v), .second, .val (.ref a), .val (.int at1), .val (.long w), .second, .val (.int i)] [])
      refine hs.go (fun _ kk_ => XS.lload XL.here hx rfl (hb hby d2_6) rfl  kk_) ?_
      show G TL (mkF m 8 #[.val (.long v), .second, .val (.ref a), .val (.int at1), .val (.long w), .second, .val (.int i)] [(.long w)])
      refine rLdcL hs XL hx hZ hown (hw _ (List.mem_of_getElem? (i := 9) rfl)) rfl (hb hby d2_8) ?_
      show G TL (mkF m 11 #[.val (.long v), .second, .val (.ref a), .val (.int at1), .val (.long w), .second, .val (.int i)] [(.long (-128 : Int64)), (.long w)])
      refine hs.go (fun _ kk_ => XS.land XL.here hx rfl (hb hby d2_11) rfl kk_) ?_
      show G TL (mkF m 12 #[.val (.long v), .second, .val (.ref a), .val (.int at1), .val (.long w), .second, .val (.int i)] [(.long (w &&& (-128 : Int64)))])
      refine hs.go (fun _ kk_ => XS.lconst XL.here hx rfl (hb hby d2_12) kk_) ?_
      show G TL (mkF m 13 #[.val (.long v), .second, .val (.ref a), .val (.int at1), .val (.long w), .second, .val (.int i)] [(.long (0 : Int64)), (.long (w &&& (-128 : Int64)))])
      refine hs.go (fun _ kk_ => XS.lcmp XL.here hx rfl (hb hby d2_13) rfl kk_) ?_
      show G TL (mkF m 14 #[.val (.long v), .second, .val (.ref a), .val (.int at1), .val (.long w), .second, .val (.int i)] [(.int (lcmpW (w &&& (-128 : Int64)) (0 : Int64)))])
      refine hs.go (fun _ kk_ => XS.ifYes XL.here hx rfl (pc0 := 14) (pc' := 46) rfl (hb hby d2_14) rfl ((if0 _ _).trans (eqL (hg : (w &&& (-128 : Int64)) = (0 : Int64))).1) (by decide) (by decide) kk_) ?_
      show G TL (mkF m 46 #[.val (.long v), .second, .val (.ref a), .val (.int at1), .val (.long w), .second, .val (.int i)] [])
      refine hs.go (fun _ kk_ => XS.aloadN XL.here hx rfl (hb hby d2_46) rfl rfl kk_) ?_
      show G TL (mkF m 47 #[.val (.long v), .second, .val (.ref a), .val (.int at1), .val (.long w), .second, .val (.int i)] [(.ref a)])
      refine hs.go (fun _ kk_ => XS.iload XL.here hx rfl (hb hby d2_47) rfl  kk_) ?_
      show G TL (mkF m 49 #[.val (.long v), .second, .val (.ref a), .val (.int at1), .val (.long w), .second, .val (.int i)] [(.int i), (.ref a)])
      refine hs.go (fun _ kk_ => XS.iinc XL.here hx rfl (hb hby d2_49) rfl (l' := #[.val (.long v), .second, .val (.ref a), .val (.int at1), .val (.long w), .second, .val (.int (i + (1 : Int32)))]) rfl kk_) ?_
      show G TL (mkF m 52 #[.val (.long v), .second, .val (.ref a), .val (.int at1), .val (.long w), .second, .val (.int (i + (1 : Int32)))] [(.int i), (.ref a)])
      refine hs.go (fun _ kk_ => XS.lload XL.here hx rfl (hb hby d2_52) rfl  kk_) ?_
      show G TL (mkF m 54 #[.val (.long v), .second, .val (.ref a), .val (.int at1), .val (.long w), .second, .val (.int (i + (1 : Int32)))] [(.long w), (.int i), (.ref a)])
      refine hs.go (fun _ kk_ => XS.l2i XL.here hx rfl (hb hby d2_54) rfl kk_) ?_
      show G TL (mkF m 55 #[.val (.long v), .second, .val (.ref a), .val (.int at1), .val (.long w), .second, .val (.int (i + (1 : Int32)))] [(.int (w.toInt32)), (.int i), (.ref a)])
      refine hs.go (fun _ kk_ => XS.i2b XL.here hx rfl (hb hby d2_55) rfl kk_) ?_
      show G TL (mkF m 56 #[.val (.long v), .second, .val (.ref a), .val (.int at1), .val (.long w), .second, .val (.int (i + (1 : Int32)))] [(.int ((w.toInt32).toInt8.toInt32)), (.int i), (.ref a)])
      refine rStB hs XL hx hZ V_a g_a ⟨by rw [lt32]; have k0 : (0 : Int32).toInt = 0 := rfl; omega, by rw [lt32]; have k14 : (14 : Int32).toInt = 14 := rfl; omega⟩ (n) (by simp only [Int32.toNatClampNeg, hi]; rfl) (by rw [List.length_map]; omega) (x' := ((w.toInt32).toInt8.toInt32)) (nar_byte _) rfl rfl (hb hby d2_56) (fun T1 h1 X1 W1 V_a => ?_)
      have V_a : Arv Z h1 a kc .byte (14 : Int32) (((us).set n (loB w)).map Value.int) (.int (0 : Int32)) := (by rw [List.map_set]; exact V_a)
      have K := K.wr W1 (Or.inl (by simp))
      have Ksz := K.1
      have Z0 := Nat.le_trans Z0 (Keep.of_wr W1).1
      show G T1 (mkF m 57 #[.val (.long v), .second, .val (.ref a), .val (.int at1), .val (.long w), .second, .val (.int (i + (1 : Int32)))] [])
      refine hs.go (fun _ kk_ => XS.iload X1.here hx rfl (hb hby d2_57) rfl  kk_) ?_
      show G T1 (mkF m 59 #[.val (.long v), .second, .val (.ref a), .val (.int at1), .val (.long w), .second, .val (.int (i + (1 : Int32)))] [(.int (i + (1 : Int32)))])
      exact rRetI fin X1 hx (by decide) (by decide) hret (hb hby d2_59) ⟨_, rfl, (by have q := c_iadd i 1; have r := rng32 (i + 1); have k1 : (1 : Int32).toInt = 1 := rfl; omega), K, (by rw [← hr]; exact V_a)⟩
    | succ k ih =>
      intro w i n us TL hL XL K Z0 V_a hus hi hn14 hnk hg hr
      have Ksz := K.1
      show G TL (mkF m 6 #[.val (.long v), .second, .val (.ref a), .val (.int at1), .val (.long w), .second, .val (.int i)] [])
      refine hs.go (fun _ kk_ => XS.lload XL.here hx rfl (hb hby d2_6) rfl  kk_) ?_
      show G TL (mkF m 8 #[.val (.long v), .second, .val (.ref a), .val (.int at1), .val (.long w), .second, .val (.int i)] [(.long w)])
      refine rLdcL hs XL hx hZ hown (hw _ (List.mem_of_getElem? (i := 9) rfl)) rfl (hb hby d2_8) ?_
      show G TL (mkF m 11 #[.val (.long v), .second, .val (.ref a), .val (.int at1), .val (.long w), .second, .val (.int i)] [(.long (-128 : Int64)), (.long w)])
      refine hs.go (fun _ kk_ => XS.land XL.here hx rfl (hb hby d2_11) rfl kk_) ?_
      show G TL (mkF m 12 #[.val (.long v), .second, .val (.ref a), .val (.int at1), .val (.long w), .second, .val (.int i)] [(.long (w &&& (-128 : Int64)))])
      refine hs.go (fun _ kk_ => XS.lconst XL.here hx rfl (hb hby d2_12) kk_) ?_
      show G TL (mkF m 13 #[.val (.long v), .second, .val (.ref a), .val (.int at1), .val (.long w), .second, .val (.int i)] [(.long (0 : Int64)), (.long (w &&& (-128 : Int64)))])
      refine hs.go (fun _ kk_ => XS.lcmp XL.here hx rfl (hb hby d2_13) rfl kk_) ?_
      show G TL (mkF m 14 #[.val (.long v), .second, .val (.ref a), .val (.int at1), .val (.long w), .second, .val (.int i)] [(.int (lcmpW (w &&& (-128 : Int64)) (0 : Int64)))])
      refine hs.go (fun _ kk_ => XS.ifNo XL.here hx rfl (hb hby d2_14) rfl ((if0 _ _).trans (neqL (hg.1 : ¬ ((w &&& (-128 : Int64)) = (0 : Int64)))).1) kk_) ?_
      show G TL (mkF m 17 #[.val (.long v), .second, .val (.ref a), .val (.int at1), .val (.long w), .second, .val (.int i)] [])
      refine hs.go (fun _ kk_ => XS.aloadN XL.here hx rfl (hb hby d2_17) rfl rfl kk_) ?_
      show G TL (mkF m 18 #[.val (.long v), .second, .val (.ref a), .val (.int at1), .val (.long w), .second, .val (.int i)] [(.ref a)])
      refine hs.go (fun _ kk_ => XS.iload XL.here hx rfl (hb hby d2_18) rfl  kk_) ?_
      show G TL (mkF m 20 #[.val (.long v), .second, .val (.ref a), .val (.int at1), .val (.long w), .second, .val (.int i)] [(.int i), (.ref a)])
      refine hs.go (fun _ kk_ => XS.iinc XL.here hx rfl (hb hby d2_20) rfl (l' := #[.val (.long v), .second, .val (.ref a), .val (.int at1), .val (.long w), .second, .val (.int (i + (1 : Int32)))]) rfl kk_) ?_
      show G TL (mkF m 23 #[.val (.long v), .second, .val (.ref a), .val (.int at1), .val (.long w), .second, .val (.int (i + (1 : Int32)))] [(.int i), (.ref a)])
      refine hs.go (fun _ kk_ => XS.lload XL.here hx rfl (hb hby d2_23) rfl  kk_) ?_
      show G TL (mkF m 25 #[.val (.long v), .second, .val (.ref a), .val (.int at1), .val (.long w), .second, .val (.int (i + (1 : Int32)))] [(.long w), (.int i), (.ref a)])
      refine rLdcL hs XL hx hZ hown (hw _ (List.mem_of_getElem? (i := 14) rfl)) rfl (hb hby d2_25) ?_
      show G TL (mkF m 28 #[.val (.long v), .second, .val (.ref a), .val (.int at1), .val (.long w), .second, .val (.int (i + (1 : Int32)))] [(.long (127 : Int64)), (.long w), (.int i), (.ref a)])
      refine hs.go (fun _ kk_ => XS.land XL.here hx rfl (hb hby d2_28) rfl kk_) ?_
      show G TL (mkF m 29 #[.val (.long v), .second, .val (.ref a), .val (.int at1), .val (.long w), .second, .val (.int (i + (1 : Int32)))] [(.long (w &&& (127 : Int64))), (.int i), (.ref a)])
      refine rLdcL hs XL hx hZ hown (hw _ (List.mem_of_getElem? (i := 15) rfl)) rfl (hb hby d2_29) ?_
      show G TL (mkF m 32 #[.val (.long v), .second, .val (.ref a), .val (.int at1), .val (.long w), .second, .val (.int (i + (1 : Int32)))] [(.long (128 : Int64)), (.long (w &&& (127 : Int64))), (.int i), (.ref a)])
      refine hs.go (fun _ kk_ => XS.lor XL.here hx rfl (hb hby d2_32) rfl kk_) ?_
      show G TL (mkF m 33 #[.val (.long v), .second, .val (.ref a), .val (.int at1), .val (.long w), .second, .val (.int (i + (1 : Int32)))] [(.long ((w &&& (127 : Int64)) ||| (128 : Int64))), (.int i), (.ref a)])
      refine hs.go (fun _ kk_ => XS.l2i XL.here hx rfl (hb hby d2_33) rfl kk_) ?_
      show G TL (mkF m 34 #[.val (.long v), .second, .val (.ref a), .val (.int at1), .val (.long w), .second, .val (.int (i + (1 : Int32)))] [(.int (((w &&& (127 : Int64)) ||| (128 : Int64)).toInt32)), (.int i), (.ref a)])
      refine hs.go (fun _ kk_ => XS.i2b XL.here hx rfl (hb hby d2_34) rfl kk_) ?_
      show G TL (mkF m 35 #[.val (.long v), .second, .val (.ref a), .val (.int at1), .val (.long w), .second, .val (.int (i + (1 : Int32)))] [(.int ((((w &&& (127 : Int64)) ||| (128 : Int64)).toInt32).toInt8.toInt32)), (.int i), (.ref a)])
      refine rStB hs XL hx hZ V_a g_a ⟨by rw [lt32]; have k0 : (0 : Int32).toInt = 0 := rfl; omega, by rw [lt32]; have k14 : (14 : Int32).toInt = 14 := rfl; omega⟩ (n) (by simp only [Int32.toNatClampNeg, hi]; rfl) (by rw [List.length_map]; omega) (x' := ((((w &&& (127 : Int64)) ||| (128 : Int64)).toInt32).toInt8.toInt32)) (nar_byte _) rfl rfl (hb hby d2_35) (fun T2 h2 X2 W2 V_a => ?_)
      have V_a : Arv Z h2 a kc .byte (14 : Int32) (((us).set n (hiB w)).map Value.int) (.int (0 : Int32)) := (by rw [List.map_set]; exact V_a)
      have K := K.wr W2 (Or.inl (by simp))
      have Ksz := K.1
      have Z0 := Nat.le_trans Z0 (Keep.of_wr W2).1
      show G T2 (mkF m 36 #[.val (.long v), .second, .val (.ref a), .val (.int at1), .val (.long w), .second, .val (.int (i + (1 : Int32)))] [])
      refine hs.go (fun _ kk_ => XS.lload X2.here hx rfl (hb hby d2_36) rfl  kk_) ?_
      show G T2 (mkF m 38 #[.val (.long v), .second, .val (.ref a), .val (.int at1), .val (.long w), .second, .val (.int (i + (1 : Int32)))] [(.long w)])
      refine hs.go (fun _ kk_ => XS.bipush X2.here hx rfl (hb hby d2_38) kk_) ?_
      show G T2 (mkF m 40 #[.val (.long v), .second, .val (.ref a), .val (.int at1), .val (.long w), .second, .val (.int (i + (1 : Int32)))] [(.int (7 : Int32)), (.long w)])
      refine hs.go (fun _ kk_ => XS.lushr X2.here hx rfl (hb hby d2_40) rfl kk_) ?_
      show G T2 (mkF m 41 #[.val (.long v), .second, .val (.ref a), .val (.int at1), .val (.long w), .second, .val (.int (i + (1 : Int32)))] [(.long ((w.toUInt64 >>> ((7 : Int32) &&& 0x3f).toInt64.toUInt64).toInt64))])
      refine hs.go (fun _ kk_ => XS.lstore X2.here hx rfl (hb hby d2_41) rfl (l' := #[.val (.long v), .second, .val (.ref a), .val (.int at1), .val (.long ((w.toUInt64 >>> ((7 : Int32) &&& 0x3f).toInt64.toUInt64).toInt64)), .second, .val (.int (i + (1 : Int32)))]) rfl kk_) ?_
      show G T2 (mkF m 43 #[.val (.long v), .second, .val (.ref a), .val (.int at1), .val (.long ((w.toUInt64 >>> ((7 : Int32) &&& 0x3f).toInt64.toUInt64).toInt64)), .second, .val (.int (i + (1 : Int32)))] [])
      refine hs.go (fun _ kk_ => XS.goto X2.here hx rfl (pc0 := 43) (pc' := 6) rfl (hb hby d2_43) (by decide) (by decide) kk_) ?_
      show G T2 (mkF m 6 #[.val (.long v), .second, .val (.ref a), .val (.int at1), .val (.long ((w.toUInt64 >>> ((7 : Int32) &&& 0x3f).toInt64.toUInt64).toInt64)), .second, .val (.int (i + (1 : Int32)))] [])
      exact ih (lu w) _ (n + 1) (us.set n (hiB w)) _ _ (X2.more (by decide) (by decide)) K Z0 V_a (by rw [List.length_set]; exact hus) (by have q := c_iadd i 1; have r := rng32 (i + 1); have k1 : (1 : Int32).toInt = 1 := rfl; omega) (by omega) (by omega) hg.2 hr
  exact loop k1 v at1 n1 us1 _ _ X0 K Z0 V_a hus1 hn1 h14 rfl hg1 rfl
def f3 (j at1 n : Int32) (w : Int64) (f xx : Int32) : Int32 := (if (j - at1) < (0 : Int32) then (if xx = f then (1 : Int32) else (0 : Int32)) else (if (j - at1) < n then (if (j - at1) < (n - (1 : Int32)) then (if xx = ((((((w.toUInt64 >>> (((7 : Int32) * (j - at1)) &&& 0x3f).toInt64.toUInt64).toInt64) &&& (127 : Int64)).toInt32) ||| (128 : Int32)).toInt8.toInt32) then (1 : Int32) else (0 : Int32)) else (if xx = (((((w.toUInt64 >>> (((7 : Int32) * (j - at1)) &&& 0x3f).toInt64.toUInt64).toInt64) &&& (127 : Int64)).toInt32).toInt8.toInt32) then (1 : Int32) else (0 : Int32))) else (if xx = f then (1 : Int32) else (0 : Int32))))
theorem d3_0 : decode method_3_code 0 = .ok (.iload_n 1, 1) := by decide +kernel
theorem d3_1 : decode method_3_code 1 = .ok (.iload_n 2, 1) := by decide +kernel
theorem d3_2 : decode method_3_code 2 = .ok (.isub, 1) := by decide +kernel
theorem d3_3 : decode method_3_code 3 = .ok (.istore 7, 2) := by decide +kernel
theorem d3_5 : decode method_3_code 5 = .ok (.iload 7, 2) := by decide +kernel
theorem d3_7 : decode method_3_code 7 = .ok (.ifCond .lt 9, 3) := by decide +kernel
theorem d3_10 : decode method_3_code 10 = .ok (.iload 7, 2) := by decide +kernel
theorem d3_12 : decode method_3_code 12 = .ok (.iload_n 3, 1) := by decide +kernel
theorem d3_13 : decode method_3_code 13 = .ok (.if_icmp .lt 17, 3) := by decide +kernel
theorem d3_16 : decode method_3_code 16 = .ok (.aload_n 0, 1) := by decide +kernel
theorem d3_17 : decode method_3_code 17 = .ok (.iload_n 1, 1) := by decide +kernel
theorem d3_18 : decode method_3_code 18 = .ok (.baload, 1) := by decide +kernel
theorem d3_19 : decode method_3_code 19 = .ok (.iload 6, 2) := by decide +kernel
theorem d3_21 : decode method_3_code 21 = .ok (.if_icmp .ne 7, 3) := by decide +kernel
theorem d3_24 : decode method_3_code 24 = .ok (.iconst 1, 1) := by decide +kernel
theorem d3_25 : decode method_3_code 25 = .ok (.goto 4, 3) := by decide +kernel
theorem d3_28 : decode method_3_code 28 = .ok (.iconst 0, 1) := by decide +kernel
theorem d3_29 : decode method_3_code 29 = .ok (.ireturn, 1) := by decide +kernel
theorem d3_30 : decode method_3_code 30 = .ok (.lload 4, 2) := by decide +kernel
theorem d3_32 : decode method_3_code 32 = .ok (.bipush 7, 2) := by decide +kernel
theorem d3_34 : decode method_3_code 34 = .ok (.iload 7, 2) := by decide +kernel
theorem d3_36 : decode method_3_code 36 = .ok (.imul, 1) := by decide +kernel
theorem d3_37 : decode method_3_code 37 = .ok (.lushr, 1) := by decide +kernel
theorem d3_38 : decode method_3_code 38 = .ok (.ldc2_w 7, 3) := by decide +kernel
theorem d3_41 : decode method_3_code 41 = .ok (.land, 1) := by decide +kernel
theorem d3_42 : decode method_3_code 42 = .ok (.l2i, 1) := by decide +kernel
theorem d3_43 : decode method_3_code 43 = .ok (.istore 8, 2) := by decide +kernel
theorem d3_45 : decode method_3_code 45 = .ok (.iload 7, 2) := by decide +kernel
theorem d3_47 : decode method_3_code 47 = .ok (.iload_n 3, 1) := by decide +kernel
theorem d3_48 : decode method_3_code 48 = .ok (.iconst 1, 1) := by decide +kernel
theorem d3_49 : decode method_3_code 49 = .ok (.isub, 1) := by decide +kernel
theorem d3_50 : decode method_3_code 50 = .ok (.if_icmp .ge 12, 3) := by decide +kernel
theorem d3_53 : decode method_3_code 53 = .ok (.iload 8, 2) := by decide +kernel
theorem d3_55 : decode method_3_code 55 = .ok (.sipush 128, 3) := by decide +kernel
theorem d3_58 : decode method_3_code 58 = .ok (.ior, 1) := by decide +kernel
theorem d3_59 : decode method_3_code 59 = .ok (.goto 5, 3) := by decide +kernel
theorem d3_62 : decode method_3_code 62 = .ok (.iload 8, 2) := by decide +kernel
theorem d3_64 : decode method_3_code 64 = .ok (.istore 9, 2) := by decide +kernel
theorem d3_66 : decode method_3_code 66 = .ok (.aload_n 0, 1) := by decide +kernel
theorem d3_67 : decode method_3_code 67 = .ok (.iload_n 1, 1) := by decide +kernel
theorem d3_68 : decode method_3_code 68 = .ok (.baload, 1) := by decide +kernel
theorem d3_69 : decode method_3_code 69 = .ok (.iload 9, 2) := by decide +kernel
theorem d3_71 : decode method_3_code 71 = .ok (.i2b, 1) := by decide +kernel
theorem d3_72 : decode method_3_code 72 = .ok (.if_icmp .ne 7, 3) := by decide +kernel
theorem d3_75 : decode method_3_code 75 = .ok (.iconst 1, 1) := by decide +kernel
theorem d3_76 : decode method_3_code 76 = .ok (.goto 4, 3) := by decide +kernel
theorem d3_79 : decode method_3_code 79 = .ok (.iconst 0, 1) := by decide +kernel
theorem d3_80 : decode method_3_code 80 = .ok (.ireturn, 1) := by decide +kernel
theorem pn_3 : plainFor (⟨"com/example/ranked_odds/rankedodds/index/IndexFormatEncodeNumberPinLaw", "ok", "([BIIIJB)Z"⟩ : MethodName) = true := plainFor_of_name (by first | (simp [plainName, overriddenIn]; done) | decide +kernel)
theorem ef_3 (m : MethodId) (x0 : Addr) (x1 : Int32) (x2 : Int32) (x3 : Int32) (x4 : Int64) (x5 : Int32) : entryFrame m #[(.ref x0), (.int x1), (.int x2), (.int x3), (.long x4), (.int x5)] 10 = mkF m 0 #[.val (.ref x0), .val (.int x1), .val (.int x2), .val (.int x3), .val (.long x4), .second, .val (.int x5), .unset, .unset, .unset] [] := by first | (simp [entryFrame, mkF, argsToLocals, Value.category]; done) | rfl
theorem hy_3 : ((⟨"com/example/ranked_odds/rankedodds/index/IndexFormatEncodeNumberPinLaw", "ok", "([BIIIJB)Z"⟩ : MethodName)).cls ≠ "java/lang/invoke/MethodHandle" ∧ ((⟨"com/example/ranked_odds/rankedodds/index/IndexFormatEncodeNumberPinLaw", "ok", "([BIIIJB)Z"⟩ : MethodName)).cls ≠ "java/lang/invoke/VarHandle" := by decide
set_option maxRecDepth 65536 in
set_option maxHeartbeats 40000000 in
theorem rm3 (l : Launch) (Z : State) (a0 : Array Value) (hw : ∀ d ∈ tables_1, d.before a0 Z = true) (ws : List Jvm.Cond) (a : Addr) (j at1 n : Int32) (w : Int64) (f : Int32) (us : List Int32) (kc : ClassId) (h0 : Heap) (n0 : Nat) (Z0 : n0 ≤ h0.size) (V_a : Arv Z h0 a kc .byte (14 : Int32) ((us).map Value.int) (.int (0 : Int32))) (hj : ¬ j < 0 ∧ j < (14 : Int32)) :
    Con l Z (⟨"com/example/ranked_odds/rankedodds/index/IndexFormatEncodeNumberPinLaw", "ok", "([BIIIJB)Z"⟩ : MethodName) method_3_code 10 (some .boolean) ws ({ frames := 0, cells := 0, slots := 0, locals := 0 } : Room) #[(.ref a), (.int j), (.int at1), (.int n), (.long w), (.int f)] h0 n0 (fun rv h => rv = some (.int (f3 j at1 n w f (us.getD j.toNatClampNeg 0))) ∧ h = h0) := by
  refine Con.of pn_3 ?_
  intro G p e s m below meth c s₁ hs hx hby hml hown hnm hret hZ X0 fin
  have hml : c.maxLocals = 10 := hml
  have hown : s.vm.findClass "com/example/ranked_odds/rankedodds/index/IndexFormatEncodeNumberPinLaw" = some m.cls := hown
  rw [ef_3]
  show G s₁ (mkF m 0 #[.val (.ref a), .val (.int j), .val (.int at1), .val (.int n), .val (.long w), .second, .val (.int f), .unset, .unset, .unset] [])
  refine hs.go (fun _ kk_ => XS.iloadN X0.here hx rfl (hb hby d3_0) rfl  kk_) ?_
  show G s₁ (mkF m 1 #[.val (.ref a), .val (.int j), .val (.int at1), .val (.int n), .val (.long w), .second, .val (.int f), .unset, .unset, .unset] [(.int j)])
  refine hs.go (fun _ kk_ => XS.iloadN X0.here hx rfl (hb hby d3_1) rfl  kk_) ?_
  show G s₁ (mkF m 2 #[.val (.ref a), .val (.int j), .val (.int at1), .val (.int n), .val (.long w), .second, .val (.int f), .unset, .unset, .unset] [(.int at1), (.int j)])
  refine hs.go (fun _ kk_ => XS.isub X0.here hx rfl (hb hby d3_2) rfl kk_) ?_
  show G s₁ (mkF m 3 #[.val (.ref a), .val (.int j), .val (.int at1), .val (.int n), .val (.long w), .second, .val (.int f), .unset, .unset, .unset] [(.int (j - at1))])
  refine nameIt (P := fun zz_ : Int32 => G s₁ (mkF m 3 #[.val (.ref a), .val (.int j), .val (.int at1), .val (.int n), .val (.long w), .second, .val (.int f), .unset, .unset, .unset] [(.int zz_)])) (j - at1) (fun v1 hv1 => ?_)
  show G s₁ (mkF m 3 #[.val (.ref a), .val (.int j), .val (.int at1), .val (.int n), .val (.long w), .second, .val (.int f), .unset, .unset, .unset] [(.int v1)])
  refine hs.go (fun _ kk_ => XS.istore X0.here hx rfl (hb hby d3_3) rfl (l' := #[.val (.ref a), .val (.int j), .val (.int at1), .val (.int n), .val (.long w), .second, .val (.int f), .val (.int v1), .unset, .unset]) rfl kk_) ?_
  show G s₁ (mkF m 5 #[.val (.ref a), .val (.int j), .val (.int at1), .val (.int n), .val (.long w), .second, .val (.int f), .val (.int v1), .unset, .unset] [])
  refine hs.go (fun _ kk_ => XS.iload X0.here hx rfl (hb hby d3_5) rfl  kk_) ?_
  show G s₁ (mkF m 7 #[.val (.ref a), .val (.int j), .val (.int at1), .val (.int n), .val (.long w), .second, .val (.int f), .val (.int v1), .unset, .unset] [(.int v1)])
  by_cases c7 : v1 < (0 : Int32)
  · refine hs.go (fun _ kk_ => XS.ifYes X0.here hx rfl (pc0 := 7) (pc' := 16) rfl (hb hby d3_7) rfl ((if0 _ _).trans (tlt c7).1) (by decide) (by decide) kk_) ?_
    show G s₁ (mkF m 16 #[.val (.ref a), .val (.int j), .val (.int at1), .val (.int n), .val (.long w), .second, .val (.int f), .val (.int v1), .unset, .unset] [])
    refine hs.go (fun _ kk_ => XS.aloadN X0.here hx rfl (hb hby d3_16) rfl rfl kk_) ?_
    show G s₁ (mkF m 17 #[.val (.ref a), .val (.int j), .val (.int at1), .val (.int n), .val (.long w), .second, .val (.int f), .val (.int v1), .unset, .unset] [(.ref a)])
    refine hs.go (fun _ kk_ => XS.iloadN X0.here hx rfl (hb hby d3_17) rfl  kk_) ?_
    show G s₁ (mkF m 18 #[.val (.ref a), .val (.int j), .val (.int at1), .val (.int n), .val (.long w), .second, .val (.int f), .val (.int v1), .unset, .unset] [(.int j), (.ref a)])
    refine rLdB hs X0 hx hZ V_a hj (v := (.int (us.getD j.toNatClampNeg 0))) (own_gm us _) rfl rfl (hb hby d3_18) ?_
    show G s₁ (mkF m 19 #[.val (.ref a), .val (.int j), .val (.int at1), .val (.int n), .val (.long w), .second, .val (.int f), .val (.int v1), .unset, .unset] [(.int (us.getD j.toNatClampNeg 0))])
    refine hs.go (fun _ kk_ => XS.iload X0.here hx rfl (hb hby d3_19) rfl  kk_) ?_
    show G s₁ (mkF m 21 #[.val (.ref a), .val (.int j), .val (.int at1), .val (.int n), .val (.long w), .second, .val (.int f), .val (.int v1), .unset, .unset] [(.int f), (.int (us.getD j.toNatClampNeg 0))])
    by_cases c21 : (us.getD j.toNatClampNeg 0) = f
    · refine hs.go (fun _ kk_ => XS.icmpNo X0.here hx rfl (hb hby d3_21) rfl (teq c21).2 kk_) ?_
      show G s₁ (mkF m 24 #[.val (.ref a), .val (.int j), .val (.int at1), .val (.int n), .val (.long w), .second, .val (.int f), .val (.int v1), .unset, .unset] [])
      refine hs.go (fun _ kk_ => XS.iconst X0.here hx rfl (hb hby d3_24) kk_) ?_
      show G s₁ (mkF m 25 #[.val (.ref a), .val (.int j), .val (.int at1), .val (.int n), .val (.long w), .second, .val (.int f), .val (.int v1), .unset, .unset] [(.int (1 : Int32))])
      refine hs.go (fun _ kk_ => XS.goto X0.here hx rfl (pc0 := 25) (pc' := 29) rfl (hb hby d3_25) (by decide) (by decide) kk_) ?_
      show G s₁ (mkF m 29 #[.val (.ref a), .val (.int j), .val (.int at1), .val (.int n), .val (.long w), .second, .val (.int f), .val (.int v1), .unset, .unset] [(.int (1 : Int32))])
      exact rRetN fin X0 hx (by decide) (by decide) hret (by simp) (hb hby d3_29) (z' := (1 : Int32)) (by decide) ⟨by subst hv1; rw [f3, if_pos c7, if_pos c21], rfl⟩
    · refine hs.go (fun _ kk_ => XS.icmpYes X0.here hx rfl (pc0 := 21) (pc' := 28) rfl (hb hby d3_21) rfl (feq c21).2 (by decide) (by decide) kk_) ?_
      show G s₁ (mkF m 28 #[.val (.ref a), .val (.int j), .val (.int at1), .val (.int n), .val (.long w), .second, .val (.int f), .val (.int v1), .unset, .unset] [])
      refine hs.go (fun _ kk_ => XS.iconst X0.here hx rfl (hb hby d3_28) kk_) ?_
      show G s₁ (mkF m 29 #[.val (.ref a), .val (.int j), .val (.int at1), .val (.int n), .val (.long w), .second, .val (.int f), .val (.int v1), .unset, .unset] [(.int (0 : Int32))])
      exact rRetN fin X0 hx (by decide) (by decide) hret (by simp) (hb hby d3_29) (z' := (0 : Int32)) (by decide) ⟨by subst hv1; rw [f3, if_pos c7, if_neg c21], rfl⟩
  · refine hs.go (fun _ kk_ => XS.ifNo X0.here hx rfl (hb hby d3_7) rfl ((if0 _ _).trans (flt c7).1) kk_) ?_
    show G s₁ (mkF m 10 #[.val (.ref a), .val (.int j), .val (.int at1), .val (.int n), .val (.long w), .second, .val (.int f), .val (.int v1), .unset, .unset] [])
    refine hs.go (fun _ kk_ => XS.iload X0.here hx rfl (hb hby d3_10) rfl  kk_) ?_
    show G s₁ (mkF m 12 #[.val (.ref a), .val (.int j), .val (.int at1), .val (.int n), .val (.long w), .second, .val (.int f), .val (.int v1), .unset, .unset] [(.int v1)])
    refine hs.go (fun _ kk_ => XS.iloadN X0.here hx rfl (hb hby d3_12) rfl  kk_) ?_
    show G s₁ (mkF m 13 #[.val (.ref a), .val (.int j), .val (.int at1), .val (.int n), .val (.long w), .second, .val (.int f), .val (.int v1), .unset, .unset] [(.int n), (.int v1)])
    by_cases c13 : v1 < n
    · refine hs.go (fun _ kk_ => XS.icmpYes X0.here hx rfl (pc0 := 13) (pc' := 30) rfl (hb hby d3_13) rfl (tlt c13).1 (by decide) (by decide) kk_) ?_
      show G s₁ (mkF m 30 #[.val (.ref a), .val (.int j), .val (.int at1), .val (.int n), .val (.long w), .second, .val (.int f), .val (.int v1), .unset, .unset] [])
      refine hs.go (fun _ kk_ => XS.lload X0.here hx rfl (hb hby d3_30) rfl  kk_) ?_
      show G s₁ (mkF m 32 #[.val (.ref a), .val (.int j), .val (.int at1), .val (.int n), .val (.long w), .second, .val (.int f), .val (.int v1), .unset, .unset] [(.long w)])
      refine hs.go (fun _ kk_ => XS.bipush X0.here hx rfl (hb hby d3_32) kk_) ?_
      show G s₁ (mkF m 34 #[.val (.ref a), .val (.int j), .val (.int at1), .val (.int n), .val (.long w), .second, .val (.int f), .val (.int v1), .unset, .unset] [(.int (7 : Int32)), (.long w)])
      refine hs.go (fun _ kk_ => XS.iload X0.here hx rfl (hb hby d3_34) rfl  kk_) ?_
      show G s₁ (mkF m 36 #[.val (.ref a), .val (.int j), .val (.int at1), .val (.int n), .val (.long w), .second, .val (.int f), .val (.int v1), .unset, .unset] [(.int v1), (.int (7 : Int32)), (.long w)])
      refine hs.go (fun _ kk_ => XS.imul X0.here hx rfl (hb hby d3_36) rfl kk_) ?_
      show G s₁ (mkF m 37 #[.val (.ref a), .val (.int j), .val (.int at1), .val (.int n), .val (.long w), .second, .val (.int f), .val (.int v1), .unset, .unset] [(.int ((7 : Int32) * v1)), (.long w)])
      refine hs.go (fun _ kk_ => XS.lushr X0.here hx rfl (hb hby d3_37) rfl kk_) ?_
      show G s₁ (mkF m 38 #[.val (.ref a), .val (.int j), .val (.int at1), .val (.int n), .val (.long w), .second, .val (.int f), .val (.int v1), .unset, .unset] [(.long ((w.toUInt64 >>> (((7 : Int32) * v1) &&& 0x3f).toInt64.toUInt64).toInt64))])
      refine rLdcL hs X0 hx hZ hown (hw _ (List.mem_of_getElem? (i := 13) rfl)) rfl (hb hby d3_38) ?_
      show G s₁ (mkF m 41 #[.val (.ref a), .val (.int j), .val (.int at1), .val (.int n), .val (.long w), .second, .val (.int f), .val (.int v1), .unset, .unset] [(.long (127 : Int64)), (.long ((w.toUInt64 >>> (((7 : Int32) * v1) &&& 0x3f).toInt64.toUInt64).toInt64))])
      refine hs.go (fun _ kk_ => XS.land X0.here hx rfl (hb hby d3_41) rfl kk_) ?_
      show G s₁ (mkF m 42 #[.val (.ref a), .val (.int j), .val (.int at1), .val (.int n), .val (.long w), .second, .val (.int f), .val (.int v1), .unset, .unset] [(.long (((w.toUInt64 >>> (((7 : Int32) * v1) &&& 0x3f).toInt64.toUInt64).toInt64) &&& (127 : Int64)))])
      refine hs.go (fun _ kk_ => XS.l2i X0.here hx rfl (hb hby d3_42) rfl kk_) ?_
      show G s₁ (mkF m 43 #[.val (.ref a), .val (.int j), .val (.int at1), .val (.int n), .val (.long w), .second, .val (.int f), .val (.int v1), .unset, .unset] [(.int ((((w.toUInt64 >>> (((7 : Int32) * v1) &&& 0x3f).toInt64.toUInt64).toInt64) &&& (127 : Int64)).toInt32))])
      refine nameIt (P := fun zz_ : Int32 => G s₁ (mkF m 43 #[.val (.ref a), .val (.int j), .val (.int at1), .val (.int n), .val (.long w), .second, .val (.int f), .val (.int v1), .unset, .unset] [(.int zz_)])) ((((w.toUInt64 >>> (((7 : Int32) * v1) &&& 0x3f).toInt64.toUInt64).toInt64) &&& (127 : Int64)).toInt32) (fun v2 hv2 => ?_)
      show G s₁ (mkF m 43 #[.val (.ref a), .val (.int j), .val (.int at1), .val (.int n), .val (.long w), .second, .val (.int f), .val (.int v1), .unset, .unset] [(.int v2)])
      refine hs.go (fun _ kk_ => XS.istore X0.here hx rfl (hb hby d3_43) rfl (l' := #[.val (.ref a), .val (.int j), .val (.int at1), .val (.int n), .val (.long w), .second, .val (.int f), .val (.int v1), .val (.int v2), .unset]) rfl kk_) ?_
      show G s₁ (mkF m 45 #[.val (.ref a), .val (.int j), .val (.int at1), .val (.int n), .val (.long w), .second, .val (.int f), .val (.int v1), .val (.int v2), .unset] [])
      refine hs.go (fun _ kk_ => XS.iload X0.here hx rfl (hb hby d3_45) rfl  kk_) ?_
      show G s₁ (mkF m 47 #[.val (.ref a), .val (.int j), .val (.int at1), .val (.int n), .val (.long w), .second, .val (.int f), .val (.int v1), .val (.int v2), .unset] [(.int v1)])
      refine hs.go (fun _ kk_ => XS.iloadN X0.here hx rfl (hb hby d3_47) rfl  kk_) ?_
      show G s₁ (mkF m 48 #[.val (.ref a), .val (.int j), .val (.int at1), .val (.int n), .val (.long w), .second, .val (.int f), .val (.int v1), .val (.int v2), .unset] [(.int n), (.int v1)])
      refine hs.go (fun _ kk_ => XS.iconst X0.here hx rfl (hb hby d3_48) kk_) ?_
      show G s₁ (mkF m 49 #[.val (.ref a), .val (.int j), .val (.int at1), .val (.int n), .val (.long w), .second, .val (.int f), .val (.int v1), .val (.int v2), .unset] [(.int (1 : Int32)), (.int n), (.int v1)])
      refine hs.go (fun _ kk_ => XS.isub X0.here hx rfl (hb hby d3_49) rfl kk_) ?_
      show G s₁ (mkF m 50 #[.val (.ref a), .val (.int j), .val (.int at1), .val (.int n), .val (.long w), .second, .val (.int f), .val (.int v1), .val (.int v2), .unset] [(.int (n - (1 : Int32))), (.int v1)])
      by_cases c50 : v1 < (n - (1 : Int32))
      · refine hs.go (fun _ kk_ => XS.icmpNo X0.here hx rfl (hb hby d3_50) rfl (tlt c50).2.1 kk_) ?_
        show G s₁ (mkF m 53 #[.val (.ref a), .val (.int j), .val (.int at1), .val (.int n), .val (.long w), .second, .val (.int f), .val (.int v1), .val (.int v2), .unset] [])
        refine hs.go (fun _ kk_ => XS.iload X0.here hx rfl (hb hby d3_53) rfl  kk_) ?_
        show G s₁ (mkF m 55 #[.val (.ref a), .val (.int j), .val (.int at1), .val (.int n), .val (.long w), .second, .val (.int f), .val (.int v1), .val (.int v2), .unset] [(.int v2)])
        refine hs.go (fun _ kk_ => XS.sipush X0.here hx rfl (hb hby d3_55) kk_) ?_
        show G s₁ (mkF m 58 #[.val (.ref a), .val (.int j), .val (.int at1), .val (.int n), .val (.long w), .second, .val (.int f), .val (.int v1), .val (.int v2), .unset] [(.int (128 : Int32)), (.int v2)])
        refine hs.go (fun _ kk_ => XS.ior X0.here hx rfl (hb hby d3_58) rfl kk_) ?_
        show G s₁ (mkF m 59 #[.val (.ref a), .val (.int j), .val (.int at1), .val (.int n), .val (.long w), .second, .val (.int f), .val (.int v1), .val (.int v2), .unset] [(.int (v2 ||| (128 : Int32)))])
        refine hs.go (fun _ kk_ => XS.goto X0.here hx rfl (pc0 := 59) (pc' := 64) rfl (hb hby d3_59) (by decide) (by decide) kk_) ?_
        show G s₁ (mkF m 64 #[.val (.ref a), .val (.int j), .val (.int at1), .val (.int n), .val (.long w), .second, .val (.int f), .val (.int v1), .val (.int v2), .unset] [(.int (v2 ||| (128 : Int32)))])
        refine nameIt (P := fun zz_ : Int32 => G s₁ (mkF m 64 #[.val (.ref a), .val (.int j), .val (.int at1), .val (.int n), .val (.long w), .second, .val (.int f), .val (.int v1), .val (.int v2), .unset] [(.int zz_)])) (v2 ||| (128 : Int32)) (fun v3 hv3 => ?_)
        show G s₁ (mkF m 64 #[.val (.ref a), .val (.int j), .val (.int at1), .val (.int n), .val (.long w), .second, .val (.int f), .val (.int v1), .val (.int v2), .unset] [(.int v3)])
        refine hs.go (fun _ kk_ => XS.istore X0.here hx rfl (hb hby d3_64) rfl (l' := #[.val (.ref a), .val (.int j), .val (.int at1), .val (.int n), .val (.long w), .second, .val (.int f), .val (.int v1), .val (.int v2), .val (.int v3)]) rfl kk_) ?_
        show G s₁ (mkF m 66 #[.val (.ref a), .val (.int j), .val (.int at1), .val (.int n), .val (.long w), .second, .val (.int f), .val (.int v1), .val (.int v2), .val (.int v3)] [])
        refine hs.go (fun _ kk_ => XS.aloadN X0.here hx rfl (hb hby d3_66) rfl rfl kk_) ?_
        show G s₁ (mkF m 67 #[.val (.ref a), .val (.int j), .val (.int at1), .val (.int n), .val (.long w), .second, .val (.int f), .val (.int v1), .val (.int v2), .val (.int v3)] [(.ref a)])
        refine hs.go (fun _ kk_ => XS.iloadN X0.here hx rfl (hb hby d3_67) rfl  kk_) ?_
        show G s₁ (mkF m 68 #[.val (.ref a), .val (.int j), .val (.int at1), .val (.int n), .val (.long w), .second, .val (.int f), .val (.int v1), .val (.int v2), .val (.int v3)] [(.int j), (.ref a)])
        refine rLdB hs X0 hx hZ V_a hj (v := (.int (us.getD j.toNatClampNeg 0))) (own_gm us _) rfl rfl (hb hby d3_68) ?_
        show G s₁ (mkF m 69 #[.val (.ref a), .val (.int j), .val (.int at1), .val (.int n), .val (.long w), .second, .val (.int f), .val (.int v1), .val (.int v2), .val (.int v3)] [(.int (us.getD j.toNatClampNeg 0))])
        refine hs.go (fun _ kk_ => XS.iload X0.here hx rfl (hb hby d3_69) rfl  kk_) ?_
        show G s₁ (mkF m 71 #[.val (.ref a), .val (.int j), .val (.int at1), .val (.int n), .val (.long w), .second, .val (.int f), .val (.int v1), .val (.int v2), .val (.int v3)] [(.int v3), (.int (us.getD j.toNatClampNeg 0))])
        refine hs.go (fun _ kk_ => XS.i2b X0.here hx rfl (hb hby d3_71) rfl kk_) ?_
        show G s₁ (mkF m 72 #[.val (.ref a), .val (.int j), .val (.int at1), .val (.int n), .val (.long w), .second, .val (.int f), .val (.int v1), .val (.int v2), .val (.int v3)] [(.int (v3.toInt8.toInt32)), (.int (us.getD j.toNatClampNeg 0))])
        by_cases c72 : (us.getD j.toNatClampNeg 0) = (v3.toInt8.toInt32)
        · refine hs.go (fun _ kk_ => XS.icmpNo X0.here hx rfl (hb hby d3_72) rfl (teq c72).2 kk_) ?_
          show G s₁ (mkF m 75 #[.val (.ref a), .val (.int j), .val (.int at1), .val (.int n), .val (.long w), .second, .val (.int f), .val (.int v1), .val (.int v2), .val (.int v3)] [])
          refine hs.go (fun _ kk_ => XS.iconst X0.here hx rfl (hb hby d3_75) kk_) ?_
          show G s₁ (mkF m 76 #[.val (.ref a), .val (.int j), .val (.int at1), .val (.int n), .val (.long w), .second, .val (.int f), .val (.int v1), .val (.int v2), .val (.int v3)] [(.int (1 : Int32))])
          refine hs.go (fun _ kk_ => XS.goto X0.here hx rfl (pc0 := 76) (pc' := 80) rfl (hb hby d3_76) (by decide) (by decide) kk_) ?_
          show G s₁ (mkF m 80 #[.val (.ref a), .val (.int j), .val (.int at1), .val (.int n), .val (.long w), .second, .val (.int f), .val (.int v1), .val (.int v2), .val (.int v3)] [(.int (1 : Int32))])
          exact rRetN fin X0 hx (by decide) (by decide) hret (by simp) (hb hby d3_80) (z' := (1 : Int32)) (by decide) ⟨by subst hv1; subst hv2; subst hv3; rw [f3, if_neg c7, if_pos c13, if_pos c50, if_pos c72], rfl⟩
        · refine hs.go (fun _ kk_ => XS.icmpYes X0.here hx rfl (pc0 := 72) (pc' := 79) rfl (hb hby d3_72) rfl (feq c72).2 (by decide) (by decide) kk_) ?_
          show G s₁ (mkF m 79 #[.val (.ref a), .val (.int j), .val (.int at1), .val (.int n), .val (.long w), .second, .val (.int f), .val (.int v1), .val (.int v2), .val (.int v3)] [])
          refine hs.go (fun _ kk_ => XS.iconst X0.here hx rfl (hb hby d3_79) kk_) ?_
          show G s₁ (mkF m 80 #[.val (.ref a), .val (.int j), .val (.int at1), .val (.int n), .val (.long w), .second, .val (.int f), .val (.int v1), .val (.int v2), .val (.int v3)] [(.int (0 : Int32))])
          exact rRetN fin X0 hx (by decide) (by decide) hret (by simp) (hb hby d3_80) (z' := (0 : Int32)) (by decide) ⟨by subst hv1; subst hv2; subst hv3; rw [f3, if_neg c7, if_pos c13, if_pos c50, if_neg c72], rfl⟩
      · refine hs.go (fun _ kk_ => XS.icmpYes X0.here hx rfl (pc0 := 50) (pc' := 62) rfl (hb hby d3_50) rfl (flt c50).2.1 (by decide) (by decide) kk_) ?_
        show G s₁ (mkF m 62 #[.val (.ref a), .val (.int j), .val (.int at1), .val (.int n), .val (.long w), .second, .val (.int f), .val (.int v1), .val (.int v2), .unset] [])
        refine hs.go (fun _ kk_ => XS.iload X0.here hx rfl (hb hby d3_62) rfl  kk_) ?_
        show G s₁ (mkF m 64 #[.val (.ref a), .val (.int j), .val (.int at1), .val (.int n), .val (.long w), .second, .val (.int f), .val (.int v1), .val (.int v2), .unset] [(.int v2)])
        refine hs.go (fun _ kk_ => XS.istore X0.here hx rfl (hb hby d3_64) rfl (l' := #[.val (.ref a), .val (.int j), .val (.int at1), .val (.int n), .val (.long w), .second, .val (.int f), .val (.int v1), .val (.int v2), .val (.int v2)]) rfl kk_) ?_
        show G s₁ (mkF m 66 #[.val (.ref a), .val (.int j), .val (.int at1), .val (.int n), .val (.long w), .second, .val (.int f), .val (.int v1), .val (.int v2), .val (.int v2)] [])
        refine hs.go (fun _ kk_ => XS.aloadN X0.here hx rfl (hb hby d3_66) rfl rfl kk_) ?_
        show G s₁ (mkF m 67 #[.val (.ref a), .val (.int j), .val (.int at1), .val (.int n), .val (.long w), .second, .val (.int f), .val (.int v1), .val (.int v2), .val (.int v2)] [(.ref a)])
        refine hs.go (fun _ kk_ => XS.iloadN X0.here hx rfl (hb hby d3_67) rfl  kk_) ?_
        show G s₁ (mkF m 68 #[.val (.ref a), .val (.int j), .val (.int at1), .val (.int n), .val (.long w), .second, .val (.int f), .val (.int v1), .val (.int v2), .val (.int v2)] [(.int j), (.ref a)])
        refine rLdB hs X0 hx hZ V_a hj (v := (.int (us.getD j.toNatClampNeg 0))) (own_gm us _) rfl rfl (hb hby d3_68) ?_
        show G s₁ (mkF m 69 #[.val (.ref a), .val (.int j), .val (.int at1), .val (.int n), .val (.long w), .second, .val (.int f), .val (.int v1), .val (.int v2), .val (.int v2)] [(.int (us.getD j.toNatClampNeg 0))])
        refine hs.go (fun _ kk_ => XS.iload X0.here hx rfl (hb hby d3_69) rfl  kk_) ?_
        show G s₁ (mkF m 71 #[.val (.ref a), .val (.int j), .val (.int at1), .val (.int n), .val (.long w), .second, .val (.int f), .val (.int v1), .val (.int v2), .val (.int v2)] [(.int v2), (.int (us.getD j.toNatClampNeg 0))])
        refine hs.go (fun _ kk_ => XS.i2b X0.here hx rfl (hb hby d3_71) rfl kk_) ?_
        show G s₁ (mkF m 72 #[.val (.ref a), .val (.int j), .val (.int at1), .val (.int n), .val (.long w), .second, .val (.int f), .val (.int v1), .val (.int v2), .val (.int v2)] [(.int (v2.toInt8.toInt32)), (.int (us.getD j.toNatClampNeg 0))])
        by_cases c72 : (us.getD j.toNatClampNeg 0) = (v2.toInt8.toInt32)
        · refine hs.go (fun _ kk_ => XS.icmpNo X0.here hx rfl (hb hby d3_72) rfl (teq c72).2 kk_) ?_
          show G s₁ (mkF m 75 #[.val (.ref a), .val (.int j), .val (.int at1), .val (.int n), .val (.long w), .second, .val (.int f), .val (.int v1), .val (.int v2), .val (.int v2)] [])
          refine hs.go (fun _ kk_ => XS.iconst X0.here hx rfl (hb hby d3_75) kk_) ?_
          show G s₁ (mkF m 76 #[.val (.ref a), .val (.int j), .val (.int at1), .val (.int n), .val (.long w), .second, .val (.int f), .val (.int v1), .val (.int v2), .val (.int v2)] [(.int (1 : Int32))])
          refine hs.go (fun _ kk_ => XS.goto X0.here hx rfl (pc0 := 76) (pc' := 80) rfl (hb hby d3_76) (by decide) (by decide) kk_) ?_
          show G s₁ (mkF m 80 #[.val (.ref a), .val (.int j), .val (.int at1), .val (.int n), .val (.long w), .second, .val (.int f), .val (.int v1), .val (.int v2), .val (.int v2)] [(.int (1 : Int32))])
          exact rRetN fin X0 hx (by decide) (by decide) hret (by simp) (hb hby d3_80) (z' := (1 : Int32)) (by decide) ⟨by subst hv1; subst hv2; rw [f3, if_neg c7, if_pos c13, if_neg c50, if_pos c72], rfl⟩
        · refine hs.go (fun _ kk_ => XS.icmpYes X0.here hx rfl (pc0 := 72) (pc' := 79) rfl (hb hby d3_72) rfl (feq c72).2 (by decide) (by decide) kk_) ?_
          show G s₁ (mkF m 79 #[.val (.ref a), .val (.int j), .val (.int at1), .val (.int n), .val (.long w), .second, .val (.int f), .val (.int v1), .val (.int v2), .val (.int v2)] [])
          refine hs.go (fun _ kk_ => XS.iconst X0.here hx rfl (hb hby d3_79) kk_) ?_
          show G s₁ (mkF m 80 #[.val (.ref a), .val (.int j), .val (.int at1), .val (.int n), .val (.long w), .second, .val (.int f), .val (.int v1), .val (.int v2), .val (.int v2)] [(.int (0 : Int32))])
          exact rRetN fin X0 hx (by decide) (by decide) hret (by simp) (hb hby d3_80) (z' := (0 : Int32)) (by decide) ⟨by subst hv1; subst hv2; rw [f3, if_neg c7, if_pos c13, if_neg c50, if_neg c72], rfl⟩
    · refine hs.go (fun _ kk_ => XS.icmpNo X0.here hx rfl (hb hby d3_13) rfl (flt c13).1 kk_) ?_
      show G s₁ (mkF m 16 #[.val (.ref a), .val (.int j), .val (.int at1), .val (.int n), .val (.long w), .second, .val (.int f), .val (.int v1), .unset, .unset] [])
      refine hs.go (fun _ kk_ => XS.aloadN X0.here hx rfl (hb hby d3_16) rfl rfl kk_) ?_
      show G s₁ (mkF m 17 #[.val (.ref a), .val (.int j), .val (.int at1), .val (.int n), .val (.long w), .second, .val (.int f), .val (.int v1), .unset, .unset] [(.ref a)])
      refine hs.go (fun _ kk_ => XS.iloadN X0.here hx rfl (hb hby d3_17) rfl  kk_) ?_
      show G s₁ (mkF m 18 #[.val (.ref a), .val (.int j), .val (.int at1), .val (.int n), .val (.long w), .second, .val (.int f), .val (.int v1), .unset, .unset] [(.int j), (.ref a)])
      refine rLdB hs X0 hx hZ V_a hj (v := (.int (us.getD j.toNatClampNeg 0))) (own_gm us _) rfl rfl (hb hby d3_18) ?_
      show G s₁ (mkF m 19 #[.val (.ref a), .val (.int j), .val (.int at1), .val (.int n), .val (.long w), .second, .val (.int f), .val (.int v1), .unset, .unset] [(.int (us.getD j.toNatClampNeg 0))])
      refine hs.go (fun _ kk_ => XS.iload X0.here hx rfl (hb hby d3_19) rfl  kk_) ?_
      show G s₁ (mkF m 21 #[.val (.ref a), .val (.int j), .val (.int at1), .val (.int n), .val (.long w), .second, .val (.int f), .val (.int v1), .unset, .unset] [(.int f), (.int (us.getD j.toNatClampNeg 0))])
      by_cases c21 : (us.getD j.toNatClampNeg 0) = f
      · refine hs.go (fun _ kk_ => XS.icmpNo X0.here hx rfl (hb hby d3_21) rfl (teq c21).2 kk_) ?_
        show G s₁ (mkF m 24 #[.val (.ref a), .val (.int j), .val (.int at1), .val (.int n), .val (.long w), .second, .val (.int f), .val (.int v1), .unset, .unset] [])
        refine hs.go (fun _ kk_ => XS.iconst X0.here hx rfl (hb hby d3_24) kk_) ?_
        show G s₁ (mkF m 25 #[.val (.ref a), .val (.int j), .val (.int at1), .val (.int n), .val (.long w), .second, .val (.int f), .val (.int v1), .unset, .unset] [(.int (1 : Int32))])
        refine hs.go (fun _ kk_ => XS.goto X0.here hx rfl (pc0 := 25) (pc' := 29) rfl (hb hby d3_25) (by decide) (by decide) kk_) ?_
        show G s₁ (mkF m 29 #[.val (.ref a), .val (.int j), .val (.int at1), .val (.int n), .val (.long w), .second, .val (.int f), .val (.int v1), .unset, .unset] [(.int (1 : Int32))])
        exact rRetN fin X0 hx (by decide) (by decide) hret (by simp) (hb hby d3_29) (z' := (1 : Int32)) (by decide) ⟨by subst hv1; rw [f3, if_neg c7, if_neg c13, if_pos c21], rfl⟩
      · refine hs.go (fun _ kk_ => XS.icmpYes X0.here hx rfl (pc0 := 21) (pc' := 28) rfl (hb hby d3_21) rfl (feq c21).2 (by decide) (by decide) kk_) ?_
        show G s₁ (mkF m 28 #[.val (.ref a), .val (.int j), .val (.int at1), .val (.int n), .val (.long w), .second, .val (.int f), .val (.int v1), .unset, .unset] [])
        refine hs.go (fun _ kk_ => XS.iconst X0.here hx rfl (hb hby d3_28) kk_) ?_
        show G s₁ (mkF m 29 #[.val (.ref a), .val (.int j), .val (.int at1), .val (.int n), .val (.long w), .second, .val (.int f), .val (.int v1), .unset, .unset] [(.int (0 : Int32))])
        exact rRetN fin X0 hx (by decide) (by decide) hret (by simp) (hb hby d3_29) (z' := (0 : Int32)) (by decide) ⟨by subst hv1; rw [f3, if_neg c7, if_neg c13, if_neg c21], rfl⟩

theorem own_hib (w : Int64) : hiB w = (((((w &&& (127 : Int64)).toInt32) ||| (128 : Int32))).toInt8.toInt32) := by
  have a : (w &&& (127 : Int64)).toInt = w.toInt % 128 := c_maskL w 127 7 (by decide) (by decide)
  have b := c_l2i (w &&& (127 : Int64))
  have r := rng32 ((w &&& (127 : Int64)).toInt32)
  have k : (128 : Int64).toInt = 128 := rfl
  have k' : (128 : Int32).toInt = 128 := rfl
  have o1 := c_orL' (w &&& (127 : Int64)) 128 7 (by decide) 128 rfl (by omega) (by omega) (by omega)
  have r1 := rng64 ((w &&& (127 : Int64)) ||| (128 : Int64))
  have o2 := c_or' ((w &&& (127 : Int64)).toInt32) 128 7 (by decide) 128 rfl (by omega) (by omega) (by omega)
  have r2 := rng32 (((w &&& (127 : Int64)).toInt32) ||| (128 : Int32))
  have c := c_l2i ((w &&& (127 : Int64)) ||| (128 : Int64))
  have r3 := rng32 ((w &&& (127 : Int64)) ||| (128 : Int64)).toInt32
  have e : ((w &&& (127 : Int64)) ||| (128 : Int64)).toInt32 = ((w &&& (127 : Int64)).toInt32) ||| (128 : Int32) := eq32 (by omega)
  rw [hiB, e]
theorem own_lob {w : Int64} (h : U w < 128) : loB w = (((w &&& (127 : Int64)).toInt32).toInt8.toInt32) := by
  have a : (w &&& (127 : Int64)).toInt = w.toInt % 128 := c_maskL w 127 7 (by decide) (by decide)
  have b := own_U w
  have r := rng64 w
  have e : (w &&& (127 : Int64)) = w := eq64 (by omega)
  rw [loB, e]
theorem own_ap {x y : Int32} (h : y = (x &&& (3 : Int32))) : 0 ≤ y.toInt ∧ y.toInt ≤ 3 := by
  have a : (x &&& (3 : Int32)).toInt = x.toInt % 4 := c_mask x 3 2 (by decide) (by decide)
  rw [h]; omega
theorem own_sub {j a : Int32} (hj : 0 ≤ j.toInt ∧ j.toInt < 14) (ha : 0 ≤ a.toInt ∧ a.toInt ≤ 3) : (j - a).toInt = j.toInt - a.toInt := by
  have q := c_isub j a
  have r := rng32 (j - a)
  omega
theorem own_7 {i : Int32} (t : Nat) (h : i.toInt = t) (h9 : t ≤ 9) : ((7 : Int32) * i).toBitVec.toNat % 64 = 7 * t := by
  have q := c_imul 7 i
  have k : (7 : Int32).toInt = 7 := rfl
  rw [k] at q
  have r := rng32 (7 * i)
  have e : (7 * i).toInt = 7 * t := by omega
  have z : (7 * i).toInt = (7 * i).toBitVec.toInt := rfl
  rw [z, BitVec.toInt_eq_toNat_cond] at e
  have l := (7 * i).toBitVec.isLt
  split at e <;> omega
theorem own_ok (j a n : Int32) (v : Int64) (f : Int32) (k : Nat) (hj : 0 ≤ j.toInt ∧ j.toInt < 14) (ha : 0 ≤ a.toInt ∧ a.toInt ≤ 3) (h9 : k ≤ 9) (hn : n.toInt = (k + 1 : Nat)) (hg : grp k v) :
    ¬ (f3 j a n v f ((encL k v a.toInt.toNat [f, f, f, f, f, f, f, f, f, f, f, f, f, f]).getD j.toNatClampNeg 0) = (0 : Int32)) := by
  have ej : j.toNatClampNeg = j.toInt.toNat := rfl
  have i1 := own_sub hj ha
  have gU := own_gU k v hg
  rw [ej, own_get k v _ _ _ (by show a.toInt.toNat + k < 14; omega)]
  have k0 : (0 : Int32).toInt = 0 := rfl
  have k1 : (1 : Int32).toInt = 1 := rfl
  have n1 := c_isub n 1
  have rn := rng32 (n - 1)
  have ff : ∀ t, t < 14 → List.getD [f, f, f, f, f, f, f, f, f, f, f, f, f, f] t 0 = f := by
    intro t ht
    rcases t with _ | _ | _ | _ | _ | _ | _ | _ | _ | _ | _ | _ | _ | _ | t
    all_goals first | rfl | omega
  unfold f3
  by_cases c1 : (j - a) < (0 : Int32)
  · rw [if_pos c1]; rw [lt32, k0] at c1
    rw [if_pos (show j.toInt.toNat < a.toInt.toNat by omega), ff _ (by omega), if_pos rfl]; decide
  · rw [if_neg c1]; rw [lt32, k0] at c1
    rw [if_neg (show ¬ j.toInt.toNat < a.toInt.toNat by omega)]
    by_cases c2 : (j - a) < n
    · rw [if_pos c2]; rw [lt32] at c2
      have s := own_sh v ((7 : Int32) * (j - a)) (j.toInt.toNat - a.toInt.toNat) (own_7 _ (by omega) (by omega))
      rw [s]
      by_cases c3 : (j - a) < (n - (1 : Int32))
      · rw [if_pos c3]; rw [lt32] at c3
        rw [if_pos (show j.toInt.toNat < a.toInt.toNat + k by omega), own_hib, if_pos rfl]; decide
      · rw [if_neg c3]; rw [lt32] at c3
        rw [if_neg (show ¬ j.toInt.toNat < a.toInt.toNat + k by omega), if_pos (show j.toInt.toNat = a.toInt.toNat + k by omega), show j.toInt.toNat - a.toInt.toNat = k by omega, own_lob gU, if_pos rfl]; decide
    · rw [if_neg c2]; rw [lt32] at c2
      rw [if_neg (show ¬ j.toInt.toNat < a.toInt.toNat + k by omega), if_neg (show ¬ j.toInt.toNat = a.toInt.toNat + k by omega), ff _ (by omega), if_pos rfl]; decide
theorem own_end {r a n : Int32} {k : Nat} (ha : 0 ≤ a.toInt ∧ a.toInt ≤ 3) (h9 : k ≤ 9) (hn : n.toInt = (k + 1 : Nat)) (hr : r.toInt = (a.toInt.toNat + k + 1 : Nat)) : r = (a + n) := by
  have q := c_iadd a n
  have s := rng32 (a + n)
  exact eq32 (by omega)

theorem pd_0 : parseMethodDescriptor "(J)I" = some ⟨[.long], some .int⟩ := by decide +kernel
theorem pd_1 : parseMethodDescriptor "(J[BI)I" = some ⟨[.long, (.array .byte), .int], some .int⟩ := by decide +kernel
theorem pd_2 : parseMethodDescriptor "([BIIIJB)Z" = some ⟨[(.array .byte), .int, .int, .int, .long, .byte], some .boolean⟩ := by decide +kernel
theorem pn_0 : plainFor x = true := plainFor_of_name (show plainName "com/example/ranked_odds/rankedodds/index/IndexFormatEncodeNumberPinLaw" = true by first | (simp [plainName, overriddenIn]; done) | decide +kernel)
theorem ef_0 (m : MethodId) (x0 : Int64) (x1 : Int32) (x2 : Int32) (x3 : Int32) : entryFrame m #[(.long x0), (.int x1), (.int x2), (.int x3)] maxLocals = mkF m 0 #[.val (.long x0), .second, .val (.int x1), .val (.int x2), .val (.int x3), .unset, .unset, .unset, .unset, .unset, .unset, .unset] [] := by first | (simp [entryFrame, mkF, argsToLocals, Value.category, maxLocals]; done) | rfl
set_option maxRecDepth 65536 in
set_option maxHeartbeats 40000000 in
theorem rm0 (l : Launch) (Z : State) (a0 : Array Value) (hw : ∀ d ∈ tables_1, d.before a0 Z = true) (ws : List Jvm.Cond) (q1 : Int64) (p2 p3 p4 : Int32) (h0 : Heap) (n0 : Nat) (Z0 : n0 ≤ h0.size)  :
    Con l Z x code maxLocals ret ws room_1 #[(.long q1), (.int p2), (.int p3), (.int p4)] h0 n0 (fun v h => v = some (.int 1)) := by
  refine Con.of pn_0 ?_
  intro G p e s m below meth c s₁ hs hx hby hml hown hnm hret hZ X0 fin
  have hml : c.maxLocals = 12 := hml
  have hown : s.vm.findClass "com/example/ranked_odds/rankedodds/index/IndexFormatEncodeNumberPinLaw" = some m.cls := hown
  rw [ef_0]
  show G s₁ (mkF m 0 #[.val (.long q1), .second, .val (.int p2), .val (.int p3), .val (.int p4), .unset, .unset, .unset, .unset, .unset, .unset, .unset] [])
  refine hs.go (fun _ kk_ => XS.lloadN X0.here hx rfl (hb hby at_0) rfl  kk_) ?_
  show G s₁ (mkF m 1 #[.val (.long q1), .second, .val (.int p2), .val (.int p3), .val (.int p4), .unset, .unset, .unset, .unset, .unset, .unset, .unset] [(.long q1)])
  refine hs.go (fun _ kk_ => XS.iloadN X0.here hx rfl (hb hby at_1) rfl  kk_) ?_
  show G s₁ (mkF m 2 #[.val (.long q1), .second, .val (.int p2), .val (.int p3), .val (.int p4), .unset, .unset, .unset, .unset, .unset, .unset, .unset] [(.int p2), (.long q1)])
  refine hs.go (fun _ kk_ => XS.bipush X0.here hx rfl (hb hby at_2) kk_) ?_
  show G s₁ (mkF m 4 #[.val (.long q1), .second, .val (.int p2), .val (.int p3), .val (.int p4), .unset, .unset, .unset, .unset, .unset, .unset, .unset] [(.int (63 : Int32)), (.int p2), (.long q1)])
  refine hs.go (fun _ kk_ => XS.iand X0.here hx rfl (hb hby at_4) rfl kk_) ?_
  show G s₁ (mkF m 5 #[.val (.long q1), .second, .val (.int p2), .val (.int p3), .val (.int p4), .unset, .unset, .unset, .unset, .unset, .unset, .unset] [(.int (p2 &&& (63 : Int32))), (.long q1)])
  refine hs.go (fun _ kk_ => XS.lushr X0.here hx rfl (hb hby at_5) rfl kk_) ?_
  show G s₁ (mkF m 6 #[.val (.long q1), .second, .val (.int p2), .val (.int p3), .val (.int p4), .unset, .unset, .unset, .unset, .unset, .unset, .unset] [(.long ((q1.toUInt64 >>> ((p2 &&& (63 : Int32)) &&& 0x3f).toInt64.toUInt64).toInt64))])
  refine nameIt (P := fun zz_ : Int64 => G s₁ (mkF m 6 #[.val (.long q1), .second, .val (.int p2), .val (.int p3), .val (.int p4), .unset, .unset, .unset, .unset, .unset, .unset, .unset] [(.long zz_)])) ((q1.toUInt64 >>> ((p2 &&& (63 : Int32)) &&& 0x3f).toInt64.toUInt64).toInt64) (fun vv hvv => ?_)
  show G s₁ (mkF m 6 #[.val (.long q1), .second, .val (.int p2), .val (.int p3), .val (.int p4), .unset, .unset, .unset, .unset, .unset, .unset, .unset] [(.long vv)])
  refine hs.go (fun _ kk_ => XS.lstore X0.here hx rfl (hb hby at_6) rfl (l' := #[.val (.long q1), .second, .val (.int p2), .val (.int p3), .val (.int p4), .val (.long vv), .second, .unset, .unset, .unset, .unset, .unset]) rfl kk_) ?_
  show G s₁ (mkF m 8 #[.val (.long q1), .second, .val (.int p2), .val (.int p3), .val (.int p4), .val (.long vv), .second, .unset, .unset, .unset, .unset, .unset] [])
  refine hs.go (fun _ kk_ => XS.iloadN X0.here hx rfl (hb hby at_8) rfl  kk_) ?_
  show G s₁ (mkF m 9 #[.val (.long q1), .second, .val (.int p2), .val (.int p3), .val (.int p4), .val (.long vv), .second, .unset, .unset, .unset, .unset, .unset] [(.int p3)])
  refine hs.go (fun _ kk_ => XS.iconst X0.here hx rfl (hb hby at_9) kk_) ?_
  show G s₁ (mkF m 10 #[.val (.long q1), .second, .val (.int p2), .val (.int p3), .val (.int p4), .val (.long vv), .second, .unset, .unset, .unset, .unset, .unset] [(.int (3 : Int32)), (.int p3)])
  refine hs.go (fun _ kk_ => XS.iand X0.here hx rfl (hb hby at_10) rfl kk_) ?_
  show G s₁ (mkF m 11 #[.val (.long q1), .second, .val (.int p2), .val (.int p3), .val (.int p4), .val (.long vv), .second, .unset, .unset, .unset, .unset, .unset] [(.int (p3 &&& (3 : Int32)))])
  refine nameIt (P := fun zz_ : Int32 => G s₁ (mkF m 11 #[.val (.long q1), .second, .val (.int p2), .val (.int p3), .val (.int p4), .val (.long vv), .second, .unset, .unset, .unset, .unset, .unset] [(.int zz_)])) (p3 &&& (3 : Int32)) (fun ap hap => ?_)
  show G s₁ (mkF m 11 #[.val (.long q1), .second, .val (.int p2), .val (.int p3), .val (.int p4), .val (.long vv), .second, .unset, .unset, .unset, .unset, .unset] [(.int ap)])
  refine hs.go (fun _ kk_ => XS.istore X0.here hx rfl (hb hby at_11) rfl (l' := #[.val (.long q1), .second, .val (.int p2), .val (.int p3), .val (.int p4), .val (.long vv), .second, .val (.int ap), .unset, .unset, .unset, .unset]) rfl kk_) ?_
  show G s₁ (mkF m 13 #[.val (.long q1), .second, .val (.int p2), .val (.int p3), .val (.int p4), .val (.long vv), .second, .val (.int ap), .unset, .unset, .unset, .unset] [])
  refine hs.go (fun _ kk_ => XS.iload X0.here hx rfl (hb hby at_13) rfl  kk_) ?_
  show G s₁ (mkF m 15 #[.val (.long q1), .second, .val (.int p2), .val (.int p3), .val (.int p4), .val (.long vv), .second, .val (.int ap), .unset, .unset, .unset, .unset] [(.int p4)])
  refine hs.go (fun _ kk_ => XS.i2b X0.here hx rfl (hb hby at_15) rfl kk_) ?_
  show G s₁ (mkF m 16 #[.val (.long q1), .second, .val (.int p2), .val (.int p3), .val (.int p4), .val (.long vv), .second, .val (.int ap), .unset, .unset, .unset, .unset] [(.int (p4.toInt8.toInt32))])
  refine nameIt (P := fun zz_ : Int32 => G s₁ (mkF m 16 #[.val (.long q1), .second, .val (.int p2), .val (.int p3), .val (.int p4), .val (.long vv), .second, .val (.int ap), .unset, .unset, .unset, .unset] [(.int zz_)])) (p4.toInt8.toInt32) (fun ff hff => ?_)
  show G s₁ (mkF m 16 #[.val (.long q1), .second, .val (.int p2), .val (.int p3), .val (.int p4), .val (.long vv), .second, .val (.int ap), .unset, .unset, .unset, .unset] [(.int ff)])
  refine hs.go (fun _ kk_ => XS.istore X0.here hx rfl (hb hby at_16) rfl (l' := #[.val (.long q1), .second, .val (.int p2), .val (.int p3), .val (.int p4), .val (.long vv), .second, .val (.int ap), .val (.int ff), .unset, .unset, .unset]) rfl kk_) ?_
  show G s₁ (mkF m 18 #[.val (.long q1), .second, .val (.int p2), .val (.int p3), .val (.int p4), .val (.long vv), .second, .val (.int ap), .val (.int ff), .unset, .unset, .unset] [])
  refine hs.go (fun _ kk_ => XS.bipush X0.here hx rfl (hb hby at_18) kk_) ?_
  show G s₁ (mkF m 20 #[.val (.long q1), .second, .val (.int p2), .val (.int p3), .val (.int p4), .val (.long vv), .second, .val (.int ap), .val (.int ff), .unset, .unset, .unset] [(.int (14 : Int32))])
  refine rNewP hs X0 hx hZ (hw _ (List.mem_of_getElem? (i := 0) rfl)) rfl (hb hby at_20) rfl (by decide) 14 14 (by decide) (by decide) (by decide) (by decide) (fun T1 h1 k1 b g1 X1 E1 V_b => ?_)
  have V_b : Arv Z h1 b k1 .byte (14 : Int32) [(.int (0 : Int32)), (.int (0 : Int32)), (.int (0 : Int32)), (.int (0 : Int32)), (.int (0 : Int32)), (.int (0 : Int32)), (.int (0 : Int32)), (.int (0 : Int32)), (.int (0 : Int32)), (.int (0 : Int32)), (.int (0 : Int32)), (.int (0 : Int32)), (.int (0 : Int32)), (.int (0 : Int32))] (.int (0 : Int32)) := V_b
  have g_b : n0 ≤ b := by rw [g1]; exact Z0
  have Z0 := Nat.le_trans Z0 E1.1
  show G T1 (mkF m 22 #[.val (.long q1), .second, .val (.int p2), .val (.int p3), .val (.int p4), .val (.long vv), .second, .val (.int ap), .val (.int ff), .unset, .unset, .unset] [(.ref b)])
  refine hs.go (fun _ kk_ => XS.dup X1.here hx rfl (hb hby at_22) rfl rfl kk_) ?_
  show G T1 (mkF m 23 #[.val (.long q1), .second, .val (.int p2), .val (.int p3), .val (.int p4), .val (.long vv), .second, .val (.int ap), .val (.int ff), .unset, .unset, .unset] [(.ref b), (.ref b)])
  refine hs.go (fun _ kk_ => XS.iconst X1.here hx rfl (hb hby at_23) kk_) ?_
  show G T1 (mkF m 24 #[.val (.long q1), .second, .val (.int p2), .val (.int p3), .val (.int p4), .val (.long vv), .second, .val (.int ap), .val (.int ff), .unset, .unset, .unset] [(.int (0 : Int32)), (.ref b), (.ref b)])
  refine hs.go (fun _ kk_ => XS.iload X1.here hx rfl (hb hby at_24) rfl  kk_) ?_
  show G T1 (mkF m 26 #[.val (.long q1), .second, .val (.int p2), .val (.int p3), .val (.int p4), .val (.long vv), .second, .val (.int ap), .val (.int ff), .unset, .unset, .unset] [(.int ff), (.int (0 : Int32)), (.ref b), (.ref b)])
  refine rStB hs X1 hx hZ V_b g_b ⟨by decide, by decide⟩ 0 (by decide) (by simp) (x' := ff) (by rw [hff]; exact nar_byte _) rfl rfl (hb hby at_26) (fun T2 h2 X2 W2 V_b => ?_)
  have V_b : Arv Z h2 b k1 .byte (14 : Int32) [(.int ff), (.int (0 : Int32)), (.int (0 : Int32)), (.int (0 : Int32)), (.int (0 : Int32)), (.int (0 : Int32)), (.int (0 : Int32)), (.int (0 : Int32)), (.int (0 : Int32)), (.int (0 : Int32)), (.int (0 : Int32)), (.int (0 : Int32)), (.int (0 : Int32)), (.int (0 : Int32))] (.int (0 : Int32)) := V_b
  have Z0 := Nat.le_trans Z0 (Keep.of_wr W2).1
  show G T2 (mkF m 27 #[.val (.long q1), .second, .val (.int p2), .val (.int p3), .val (.int p4), .val (.long vv), .second, .val (.int ap), .val (.int ff), .unset, .unset, .unset] [(.ref b)])
  refine hs.go (fun _ kk_ => XS.dup X2.here hx rfl (hb hby at_27) rfl rfl kk_) ?_
  show G T2 (mkF m 28 #[.val (.long q1), .second, .val (.int p2), .val (.int p3), .val (.int p4), .val (.long vv), .second, .val (.int ap), .val (.int ff), .unset, .unset, .unset] [(.ref b), (.ref b)])
  refine hs.go (fun _ kk_ => XS.iconst X2.here hx rfl (hb hby at_28) kk_) ?_
  show G T2 (mkF m 29 #[.val (.long q1), .second, .val (.int p2), .val (.int p3), .val (.int p4), .val (.long vv), .second, .val (.int ap), .val (.int ff), .unset, .unset, .unset] [(.int (1 : Int32)), (.ref b), (.ref b)])
  refine hs.go (fun _ kk_ => XS.iload X2.here hx rfl (hb hby at_29) rfl  kk_) ?_
  show G T2 (mkF m 31 #[.val (.long q1), .second, .val (.int p2), .val (.int p3), .val (.int p4), .val (.long vv), .second, .val (.int ap), .val (.int ff), .unset, .unset, .unset] [(.int ff), (.int (1 : Int32)), (.ref b), (.ref b)])
  refine rStB hs X2 hx hZ V_b g_b ⟨by decide, by decide⟩ 1 (by decide) (by simp) (x' := ff) (by rw [hff]; exact nar_byte _) rfl rfl (hb hby at_31) (fun T3 h3 X3 W3 V_b => ?_)
  have V_b : Arv Z h3 b k1 .byte (14 : Int32) [(.int ff), (.int ff), (.int (0 : Int32)), (.int (0 : Int32)), (.int (0 : Int32)), (.int (0 : Int32)), (.int (0 : Int32)), (.int (0 : Int32)), (.int (0 : Int32)), (.int (0 : Int32)), (.int (0 : Int32)), (.int (0 : Int32)), (.int (0 : Int32)), (.int (0 : Int32))] (.int (0 : Int32)) := V_b
  have Z0 := Nat.le_trans Z0 (Keep.of_wr W3).1
  show G T3 (mkF m 32 #[.val (.long q1), .second, .val (.int p2), .val (.int p3), .val (.int p4), .val (.long vv), .second, .val (.int ap), .val (.int ff), .unset, .unset, .unset] [(.ref b)])
  refine hs.go (fun _ kk_ => XS.dup X3.here hx rfl (hb hby at_32) rfl rfl kk_) ?_
  show G T3 (mkF m 33 #[.val (.long q1), .second, .val (.int p2), .val (.int p3), .val (.int p4), .val (.long vv), .second, .val (.int ap), .val (.int ff), .unset, .unset, .unset] [(.ref b), (.ref b)])
  refine hs.go (fun _ kk_ => XS.iconst X3.here hx rfl (hb hby at_33) kk_) ?_
  show G T3 (mkF m 34 #[.val (.long q1), .second, .val (.int p2), .val (.int p3), .val (.int p4), .val (.long vv), .second, .val (.int ap), .val (.int ff), .unset, .unset, .unset] [(.int (2 : Int32)), (.ref b), (.ref b)])
  refine hs.go (fun _ kk_ => XS.iload X3.here hx rfl (hb hby at_34) rfl  kk_) ?_
  show G T3 (mkF m 36 #[.val (.long q1), .second, .val (.int p2), .val (.int p3), .val (.int p4), .val (.long vv), .second, .val (.int ap), .val (.int ff), .unset, .unset, .unset] [(.int ff), (.int (2 : Int32)), (.ref b), (.ref b)])
  refine rStB hs X3 hx hZ V_b g_b ⟨by decide, by decide⟩ 2 (by decide) (by simp) (x' := ff) (by rw [hff]; exact nar_byte _) rfl rfl (hb hby at_36) (fun T4 h4 X4 W4 V_b => ?_)
  have V_b : Arv Z h4 b k1 .byte (14 : Int32) [(.int ff), (.int ff), (.int ff), (.int (0 : Int32)), (.int (0 : Int32)), (.int (0 : Int32)), (.int (0 : Int32)), (.int (0 : Int32)), (.int (0 : Int32)), (.int (0 : Int32)), (.int (0 : Int32)), (.int (0 : Int32)), (.int (0 : Int32)), (.int (0 : Int32))] (.int (0 : Int32)) := V_b
  have Z0 := Nat.le_trans Z0 (Keep.of_wr W4).1
  show G T4 (mkF m 37 #[.val (.long q1), .second, .val (.int p2), .val (.int p3), .val (.int p4), .val (.long vv), .second, .val (.int ap), .val (.int ff), .unset, .unset, .unset] [(.ref b)])
  refine hs.go (fun _ kk_ => XS.dup X4.here hx rfl (hb hby at_37) rfl rfl kk_) ?_
  show G T4 (mkF m 38 #[.val (.long q1), .second, .val (.int p2), .val (.int p3), .val (.int p4), .val (.long vv), .second, .val (.int ap), .val (.int ff), .unset, .unset, .unset] [(.ref b), (.ref b)])
  refine hs.go (fun _ kk_ => XS.iconst X4.here hx rfl (hb hby at_38) kk_) ?_
  show G T4 (mkF m 39 #[.val (.long q1), .second, .val (.int p2), .val (.int p3), .val (.int p4), .val (.long vv), .second, .val (.int ap), .val (.int ff), .unset, .unset, .unset] [(.int (3 : Int32)), (.ref b), (.ref b)])
  refine hs.go (fun _ kk_ => XS.iload X4.here hx rfl (hb hby at_39) rfl  kk_) ?_
  show G T4 (mkF m 41 #[.val (.long q1), .second, .val (.int p2), .val (.int p3), .val (.int p4), .val (.long vv), .second, .val (.int ap), .val (.int ff), .unset, .unset, .unset] [(.int ff), (.int (3 : Int32)), (.ref b), (.ref b)])
  refine rStB hs X4 hx hZ V_b g_b ⟨by decide, by decide⟩ 3 (by decide) (by simp) (x' := ff) (by rw [hff]; exact nar_byte _) rfl rfl (hb hby at_41) (fun T5 h5 X5 W5 V_b => ?_)
  have V_b : Arv Z h5 b k1 .byte (14 : Int32) [(.int ff), (.int ff), (.int ff), (.int ff), (.int (0 : Int32)), (.int (0 : Int32)), (.int (0 : Int32)), (.int (0 : Int32)), (.int (0 : Int32)), (.int (0 : Int32)), (.int (0 : Int32)), (.int (0 : Int32)), (.int (0 : Int32)), (.int (0 : Int32))] (.int (0 : Int32)) := V_b
  have Z0 := Nat.le_trans Z0 (Keep.of_wr W5).1
  show G T5 (mkF m 42 #[.val (.long q1), .second, .val (.int p2), .val (.int p3), .val (.int p4), .val (.long vv), .second, .val (.int ap), .val (.int ff), .unset, .unset, .unset] [(.ref b)])
  refine hs.go (fun _ kk_ => XS.dup X5.here hx rfl (hb hby at_42) rfl rfl kk_) ?_
  show G T5 (mkF m 43 #[.val (.long q1), .second, .val (.int p2), .val (.int p3), .val (.int p4), .val (.long vv), .second, .val (.int ap), .val (.int ff), .unset, .unset, .unset] [(.ref b), (.ref b)])
  refine hs.go (fun _ kk_ => XS.iconst X5.here hx rfl (hb hby at_43) kk_) ?_
  show G T5 (mkF m 44 #[.val (.long q1), .second, .val (.int p2), .val (.int p3), .val (.int p4), .val (.long vv), .second, .val (.int ap), .val (.int ff), .unset, .unset, .unset] [(.int (4 : Int32)), (.ref b), (.ref b)])
  refine hs.go (fun _ kk_ => XS.iload X5.here hx rfl (hb hby at_44) rfl  kk_) ?_
  show G T5 (mkF m 46 #[.val (.long q1), .second, .val (.int p2), .val (.int p3), .val (.int p4), .val (.long vv), .second, .val (.int ap), .val (.int ff), .unset, .unset, .unset] [(.int ff), (.int (4 : Int32)), (.ref b), (.ref b)])
  refine rStB hs X5 hx hZ V_b g_b ⟨by decide, by decide⟩ 4 (by decide) (by simp) (x' := ff) (by rw [hff]; exact nar_byte _) rfl rfl (hb hby at_46) (fun T6 h6 X6 W6 V_b => ?_)
  have V_b : Arv Z h6 b k1 .byte (14 : Int32) [(.int ff), (.int ff), (.int ff), (.int ff), (.int ff), (.int (0 : Int32)), (.int (0 : Int32)), (.int (0 : Int32)), (.int (0 : Int32)), (.int (0 : Int32)), (.int (0 : Int32)), (.int (0 : Int32)), (.int (0 : Int32)), (.int (0 : Int32))] (.int (0 : Int32)) := V_b
  have Z0 := Nat.le_trans Z0 (Keep.of_wr W6).1
  show G T6 (mkF m 47 #[.val (.long q1), .second, .val (.int p2), .val (.int p3), .val (.int p4), .val (.long vv), .second, .val (.int ap), .val (.int ff), .unset, .unset, .unset] [(.ref b)])
  refine hs.go (fun _ kk_ => XS.dup X6.here hx rfl (hb hby at_47) rfl rfl kk_) ?_
  show G T6 (mkF m 48 #[.val (.long q1), .second, .val (.int p2), .val (.int p3), .val (.int p4), .val (.long vv), .second, .val (.int ap), .val (.int ff), .unset, .unset, .unset] [(.ref b), (.ref b)])
  refine hs.go (fun _ kk_ => XS.iconst X6.here hx rfl (hb hby at_48) kk_) ?_
  show G T6 (mkF m 49 #[.val (.long q1), .second, .val (.int p2), .val (.int p3), .val (.int p4), .val (.long vv), .second, .val (.int ap), .val (.int ff), .unset, .unset, .unset] [(.int (5 : Int32)), (.ref b), (.ref b)])
  refine hs.go (fun _ kk_ => XS.iload X6.here hx rfl (hb hby at_49) rfl  kk_) ?_
  show G T6 (mkF m 51 #[.val (.long q1), .second, .val (.int p2), .val (.int p3), .val (.int p4), .val (.long vv), .second, .val (.int ap), .val (.int ff), .unset, .unset, .unset] [(.int ff), (.int (5 : Int32)), (.ref b), (.ref b)])
  refine rStB hs X6 hx hZ V_b g_b ⟨by decide, by decide⟩ 5 (by decide) (by simp) (x' := ff) (by rw [hff]; exact nar_byte _) rfl rfl (hb hby at_51) (fun T7 h7 X7 W7 V_b => ?_)
  have V_b : Arv Z h7 b k1 .byte (14 : Int32) [(.int ff), (.int ff), (.int ff), (.int ff), (.int ff), (.int ff), (.int (0 : Int32)), (.int (0 : Int32)), (.int (0 : Int32)), (.int (0 : Int32)), (.int (0 : Int32)), (.int (0 : Int32)), (.int (0 : Int32)), (.int (0 : Int32))] (.int (0 : Int32)) := V_b
  have Z0 := Nat.le_trans Z0 (Keep.of_wr W7).1
  show G T7 (mkF m 52 #[.val (.long q1), .second, .val (.int p2), .val (.int p3), .val (.int p4), .val (.long vv), .second, .val (.int ap), .val (.int ff), .unset, .unset, .unset] [(.ref b)])
  refine hs.go (fun _ kk_ => XS.dup X7.here hx rfl (hb hby at_52) rfl rfl kk_) ?_
  show G T7 (mkF m 53 #[.val (.long q1), .second, .val (.int p2), .val (.int p3), .val (.int p4), .val (.long vv), .second, .val (.int ap), .val (.int ff), .unset, .unset, .unset] [(.ref b), (.ref b)])
  refine hs.go (fun _ kk_ => XS.bipush X7.here hx rfl (hb hby at_53) kk_) ?_
  show G T7 (mkF m 55 #[.val (.long q1), .second, .val (.int p2), .val (.int p3), .val (.int p4), .val (.long vv), .second, .val (.int ap), .val (.int ff), .unset, .unset, .unset] [(.int (6 : Int32)), (.ref b), (.ref b)])
  refine hs.go (fun _ kk_ => XS.iload X7.here hx rfl (hb hby at_55) rfl  kk_) ?_
  show G T7 (mkF m 57 #[.val (.long q1), .second, .val (.int p2), .val (.int p3), .val (.int p4), .val (.long vv), .second, .val (.int ap), .val (.int ff), .unset, .unset, .unset] [(.int ff), (.int (6 : Int32)), (.ref b), (.ref b)])
  refine rStB hs X7 hx hZ V_b g_b ⟨by decide, by decide⟩ 6 (by decide) (by simp) (x' := ff) (by rw [hff]; exact nar_byte _) rfl rfl (hb hby at_57) (fun T8 h8 X8 W8 V_b => ?_)
  have V_b : Arv Z h8 b k1 .byte (14 : Int32) [(.int ff), (.int ff), (.int ff), (.int ff), (.int ff), (.int ff), (.int ff), (.int (0 : Int32)), (.int (0 : Int32)), (.int (0 : Int32)), (.int (0 : Int32)), (.int (0 : Int32)), (.int (0 : Int32)), (.int (0 : Int32))] (.int (0 : Int32)) := V_b
  have Z0 := Nat.le_trans Z0 (Keep.of_wr W8).1
  show G T8 (mkF m 58 #[.val (.long q1), .second, .val (.int p2), .val (.int p3), .val (.int p4), .val (.long vv), .second, .val (.int ap), .val (.int ff), .unset, .unset, .unset] [(.ref b)])
  refine hs.go (fun _ kk_ => XS.dup X8.here hx rfl (hb hby at_58) rfl rfl kk_) ?_
  show G T8 (mkF m 59 #[.val (.long q1), .second, .val (.int p2), .val (.int p3), .val (.int p4), .val (.long vv), .second, .val (.int ap), .val (.int ff), .unset, .unset, .unset] [(.ref b), (.ref b)])
  refine hs.go (fun _ kk_ => XS.bipush X8.here hx rfl (hb hby at_59) kk_) ?_
  show G T8 (mkF m 61 #[.val (.long q1), .second, .val (.int p2), .val (.int p3), .val (.int p4), .val (.long vv), .second, .val (.int ap), .val (.int ff), .unset, .unset, .unset] [(.int (7 : Int32)), (.ref b), (.ref b)])
  refine hs.go (fun _ kk_ => XS.iload X8.here hx rfl (hb hby at_61) rfl  kk_) ?_
  show G T8 (mkF m 63 #[.val (.long q1), .second, .val (.int p2), .val (.int p3), .val (.int p4), .val (.long vv), .second, .val (.int ap), .val (.int ff), .unset, .unset, .unset] [(.int ff), (.int (7 : Int32)), (.ref b), (.ref b)])
  refine rStB hs X8 hx hZ V_b g_b ⟨by decide, by decide⟩ 7 (by decide) (by simp) (x' := ff) (by rw [hff]; exact nar_byte _) rfl rfl (hb hby at_63) (fun T9 h9 X9 W9 V_b => ?_)
  have V_b : Arv Z h9 b k1 .byte (14 : Int32) [(.int ff), (.int ff), (.int ff), (.int ff), (.int ff), (.int ff), (.int ff), (.int ff), (.int (0 : Int32)), (.int (0 : Int32)), (.int (0 : Int32)), (.int (0 : Int32)), (.int (0 : Int32)), (.int (0 : Int32))] (.int (0 : Int32)) := V_b
  have Z0 := Nat.le_trans Z0 (Keep.of_wr W9).1
  show G T9 (mkF m 64 #[.val (.long q1), .second, .val (.int p2), .val (.int p3), .val (.int p4), .val (.long vv), .second, .val (.int ap), .val (.int ff), .unset, .unset, .unset] [(.ref b)])
  refine hs.go (fun _ kk_ => XS.dup X9.here hx rfl (hb hby at_64) rfl rfl kk_) ?_
  show G T9 (mkF m 65 #[.val (.long q1), .second, .val (.int p2), .val (.int p3), .val (.int p4), .val (.long vv), .second, .val (.int ap), .val (.int ff), .unset, .unset, .unset] [(.ref b), (.ref b)])
  refine hs.go (fun _ kk_ => XS.bipush X9.here hx rfl (hb hby at_65) kk_) ?_
  show G T9 (mkF m 67 #[.val (.long q1), .second, .val (.int p2), .val (.int p3), .val (.int p4), .val (.long vv), .second, .val (.int ap), .val (.int ff), .unset, .unset, .unset] [(.int (8 : Int32)), (.ref b), (.ref b)])
  refine hs.go (fun _ kk_ => XS.iload X9.here hx rfl (hb hby at_67) rfl  kk_) ?_
  show G T9 (mkF m 69 #[.val (.long q1), .second, .val (.int p2), .val (.int p3), .val (.int p4), .val (.long vv), .second, .val (.int ap), .val (.int ff), .unset, .unset, .unset] [(.int ff), (.int (8 : Int32)), (.ref b), (.ref b)])
  refine rStB hs X9 hx hZ V_b g_b ⟨by decide, by decide⟩ 8 (by decide) (by simp) (x' := ff) (by rw [hff]; exact nar_byte _) rfl rfl (hb hby at_69) (fun T10 h10 X10 W10 V_b => ?_)
  have V_b : Arv Z h10 b k1 .byte (14 : Int32) [(.int ff), (.int ff), (.int ff), (.int ff), (.int ff), (.int ff), (.int ff), (.int ff), (.int ff), (.int (0 : Int32)), (.int (0 : Int32)), (.int (0 : Int32)), (.int (0 : Int32)), (.int (0 : Int32))] (.int (0 : Int32)) := V_b
  have Z0 := Nat.le_trans Z0 (Keep.of_wr W10).1
  show G T10 (mkF m 70 #[.val (.long q1), .second, .val (.int p2), .val (.int p3), .val (.int p4), .val (.long vv), .second, .val (.int ap), .val (.int ff), .unset, .unset, .unset] [(.ref b)])
  refine hs.go (fun _ kk_ => XS.dup X10.here hx rfl (hb hby at_70) rfl rfl kk_) ?_
  show G T10 (mkF m 71 #[.val (.long q1), .second, .val (.int p2), .val (.int p3), .val (.int p4), .val (.long vv), .second, .val (.int ap), .val (.int ff), .unset, .unset, .unset] [(.ref b), (.ref b)])
  refine hs.go (fun _ kk_ => XS.bipush X10.here hx rfl (hb hby at_71) kk_) ?_
  show G T10 (mkF m 73 #[.val (.long q1), .second, .val (.int p2), .val (.int p3), .val (.int p4), .val (.long vv), .second, .val (.int ap), .val (.int ff), .unset, .unset, .unset] [(.int (9 : Int32)), (.ref b), (.ref b)])
  refine hs.go (fun _ kk_ => XS.iload X10.here hx rfl (hb hby at_73) rfl  kk_) ?_
  show G T10 (mkF m 75 #[.val (.long q1), .second, .val (.int p2), .val (.int p3), .val (.int p4), .val (.long vv), .second, .val (.int ap), .val (.int ff), .unset, .unset, .unset] [(.int ff), (.int (9 : Int32)), (.ref b), (.ref b)])
  refine rStB hs X10 hx hZ V_b g_b ⟨by decide, by decide⟩ 9 (by decide) (by simp) (x' := ff) (by rw [hff]; exact nar_byte _) rfl rfl (hb hby at_75) (fun T11 h11 X11 W11 V_b => ?_)
  have V_b : Arv Z h11 b k1 .byte (14 : Int32) [(.int ff), (.int ff), (.int ff), (.int ff), (.int ff), (.int ff), (.int ff), (.int ff), (.int ff), (.int ff), (.int (0 : Int32)), (.int (0 : Int32)), (.int (0 : Int32)), (.int (0 : Int32))] (.int (0 : Int32)) := V_b
  have Z0 := Nat.le_trans Z0 (Keep.of_wr W11).1
  show G T11 (mkF m 76 #[.val (.long q1), .second, .val (.int p2), .val (.int p3), .val (.int p4), .val (.long vv), .second, .val (.int ap), .val (.int ff), .unset, .unset, .unset] [(.ref b)])
  refine hs.go (fun _ kk_ => XS.dup X11.here hx rfl (hb hby at_76) rfl rfl kk_) ?_
  show G T11 (mkF m 77 #[.val (.long q1), .second, .val (.int p2), .val (.int p3), .val (.int p4), .val (.long vv), .second, .val (.int ap), .val (.int ff), .unset, .unset, .unset] [(.ref b), (.ref b)])
  refine hs.go (fun _ kk_ => XS.bipush X11.here hx rfl (hb hby at_77) kk_) ?_
  show G T11 (mkF m 79 #[.val (.long q1), .second, .val (.int p2), .val (.int p3), .val (.int p4), .val (.long vv), .second, .val (.int ap), .val (.int ff), .unset, .unset, .unset] [(.int (10 : Int32)), (.ref b), (.ref b)])
  refine hs.go (fun _ kk_ => XS.iload X11.here hx rfl (hb hby at_79) rfl  kk_) ?_
  show G T11 (mkF m 81 #[.val (.long q1), .second, .val (.int p2), .val (.int p3), .val (.int p4), .val (.long vv), .second, .val (.int ap), .val (.int ff), .unset, .unset, .unset] [(.int ff), (.int (10 : Int32)), (.ref b), (.ref b)])
  refine rStB hs X11 hx hZ V_b g_b ⟨by decide, by decide⟩ 10 (by decide) (by simp) (x' := ff) (by rw [hff]; exact nar_byte _) rfl rfl (hb hby at_81) (fun T12 h12 X12 W12 V_b => ?_)
  have V_b : Arv Z h12 b k1 .byte (14 : Int32) [(.int ff), (.int ff), (.int ff), (.int ff), (.int ff), (.int ff), (.int ff), (.int ff), (.int ff), (.int ff), (.int ff), (.int (0 : Int32)), (.int (0 : Int32)), (.int (0 : Int32))] (.int (0 : Int32)) := V_b
  have Z0 := Nat.le_trans Z0 (Keep.of_wr W12).1
  show G T12 (mkF m 82 #[.val (.long q1), .second, .val (.int p2), .val (.int p3), .val (.int p4), .val (.long vv), .second, .val (.int ap), .val (.int ff), .unset, .unset, .unset] [(.ref b)])
  refine hs.go (fun _ kk_ => XS.dup X12.here hx rfl (hb hby at_82) rfl rfl kk_) ?_
  show G T12 (mkF m 83 #[.val (.long q1), .second, .val (.int p2), .val (.int p3), .val (.int p4), .val (.long vv), .second, .val (.int ap), .val (.int ff), .unset, .unset, .unset] [(.ref b), (.ref b)])
  refine hs.go (fun _ kk_ => XS.bipush X12.here hx rfl (hb hby at_83) kk_) ?_
  show G T12 (mkF m 85 #[.val (.long q1), .second, .val (.int p2), .val (.int p3), .val (.int p4), .val (.long vv), .second, .val (.int ap), .val (.int ff), .unset, .unset, .unset] [(.int (11 : Int32)), (.ref b), (.ref b)])
  refine hs.go (fun _ kk_ => XS.iload X12.here hx rfl (hb hby at_85) rfl  kk_) ?_
  show G T12 (mkF m 87 #[.val (.long q1), .second, .val (.int p2), .val (.int p3), .val (.int p4), .val (.long vv), .second, .val (.int ap), .val (.int ff), .unset, .unset, .unset] [(.int ff), (.int (11 : Int32)), (.ref b), (.ref b)])
  refine rStB hs X12 hx hZ V_b g_b ⟨by decide, by decide⟩ 11 (by decide) (by simp) (x' := ff) (by rw [hff]; exact nar_byte _) rfl rfl (hb hby at_87) (fun T13 h13 X13 W13 V_b => ?_)
  have V_b : Arv Z h13 b k1 .byte (14 : Int32) [(.int ff), (.int ff), (.int ff), (.int ff), (.int ff), (.int ff), (.int ff), (.int ff), (.int ff), (.int ff), (.int ff), (.int ff), (.int (0 : Int32)), (.int (0 : Int32))] (.int (0 : Int32)) := V_b
  have Z0 := Nat.le_trans Z0 (Keep.of_wr W13).1
  show G T13 (mkF m 88 #[.val (.long q1), .second, .val (.int p2), .val (.int p3), .val (.int p4), .val (.long vv), .second, .val (.int ap), .val (.int ff), .unset, .unset, .unset] [(.ref b)])
  refine hs.go (fun _ kk_ => XS.dup X13.here hx rfl (hb hby at_88) rfl rfl kk_) ?_
  show G T13 (mkF m 89 #[.val (.long q1), .second, .val (.int p2), .val (.int p3), .val (.int p4), .val (.long vv), .second, .val (.int ap), .val (.int ff), .unset, .unset, .unset] [(.ref b), (.ref b)])
  refine hs.go (fun _ kk_ => XS.bipush X13.here hx rfl (hb hby at_89) kk_) ?_
  show G T13 (mkF m 91 #[.val (.long q1), .second, .val (.int p2), .val (.int p3), .val (.int p4), .val (.long vv), .second, .val (.int ap), .val (.int ff), .unset, .unset, .unset] [(.int (12 : Int32)), (.ref b), (.ref b)])
  refine hs.go (fun _ kk_ => XS.iload X13.here hx rfl (hb hby at_91) rfl  kk_) ?_
  show G T13 (mkF m 93 #[.val (.long q1), .second, .val (.int p2), .val (.int p3), .val (.int p4), .val (.long vv), .second, .val (.int ap), .val (.int ff), .unset, .unset, .unset] [(.int ff), (.int (12 : Int32)), (.ref b), (.ref b)])
  refine rStB hs X13 hx hZ V_b g_b ⟨by decide, by decide⟩ 12 (by decide) (by simp) (x' := ff) (by rw [hff]; exact nar_byte _) rfl rfl (hb hby at_93) (fun T14 h14 X14 W14 V_b => ?_)
  have V_b : Arv Z h14 b k1 .byte (14 : Int32) [(.int ff), (.int ff), (.int ff), (.int ff), (.int ff), (.int ff), (.int ff), (.int ff), (.int ff), (.int ff), (.int ff), (.int ff), (.int ff), (.int (0 : Int32))] (.int (0 : Int32)) := V_b
  have Z0 := Nat.le_trans Z0 (Keep.of_wr W14).1
  show G T14 (mkF m 94 #[.val (.long q1), .second, .val (.int p2), .val (.int p3), .val (.int p4), .val (.long vv), .second, .val (.int ap), .val (.int ff), .unset, .unset, .unset] [(.ref b)])
  refine hs.go (fun _ kk_ => XS.dup X14.here hx rfl (hb hby at_94) rfl rfl kk_) ?_
  show G T14 (mkF m 95 #[.val (.long q1), .second, .val (.int p2), .val (.int p3), .val (.int p4), .val (.long vv), .second, .val (.int ap), .val (.int ff), .unset, .unset, .unset] [(.ref b), (.ref b)])
  refine hs.go (fun _ kk_ => XS.bipush X14.here hx rfl (hb hby at_95) kk_) ?_
  show G T14 (mkF m 97 #[.val (.long q1), .second, .val (.int p2), .val (.int p3), .val (.int p4), .val (.long vv), .second, .val (.int ap), .val (.int ff), .unset, .unset, .unset] [(.int (13 : Int32)), (.ref b), (.ref b)])
  refine hs.go (fun _ kk_ => XS.iload X14.here hx rfl (hb hby at_97) rfl  kk_) ?_
  show G T14 (mkF m 99 #[.val (.long q1), .second, .val (.int p2), .val (.int p3), .val (.int p4), .val (.long vv), .second, .val (.int ap), .val (.int ff), .unset, .unset, .unset] [(.int ff), (.int (13 : Int32)), (.ref b), (.ref b)])
  refine rStB hs X14 hx hZ V_b g_b ⟨by decide, by decide⟩ 13 (by decide) (by simp) (x' := ff) (by rw [hff]; exact nar_byte _) rfl rfl (hb hby at_99) (fun T15 h15 X15 W15 V_b => ?_)
  have V_b : Arv Z h15 b k1 .byte (14 : Int32) [(.int ff), (.int ff), (.int ff), (.int ff), (.int ff), (.int ff), (.int ff), (.int ff), (.int ff), (.int ff), (.int ff), (.int ff), (.int ff), (.int ff)] (.int (0 : Int32)) := V_b
  have Z0 := Nat.le_trans Z0 (Keep.of_wr W15).1
  show G T15 (mkF m 100 #[.val (.long q1), .second, .val (.int p2), .val (.int p3), .val (.int p4), .val (.long vv), .second, .val (.int ap), .val (.int ff), .unset, .unset, .unset] [(.ref b)])
  refine hs.go (fun _ kk_ => XS.astore X15.here hx rfl (hb hby at_100) rfl rfl (l' := #[.val (.long q1), .second, .val (.int p2), .val (.int p3), .val (.int p4), .val (.long vv), .second, .val (.int ap), .val (.int ff), .val (.ref b), .unset, .unset]) rfl kk_) ?_
  show G T15 (mkF m 102 #[.val (.long q1), .second, .val (.int p2), .val (.int p3), .val (.int p4), .val (.long vv), .second, .val (.int ap), .val (.int ff), .val (.ref b), .unset, .unset] [])
  refine hs.go (fun _ kk_ => XS.lload X15.here hx rfl (hb hby at_102) rfl  kk_) ?_
  show G T15 (mkF m 104 #[.val (.long q1), .second, .val (.int p2), .val (.int p3), .val (.int p4), .val (.long vv), .second, .val (.int ap), .val (.int ff), .val (.ref b), .unset, .unset] [(.long vv)])
  refine rCallS hs X15 hx hZ (as' := [(.long vv)]) (rm1 l Z a0 hw [] vv h15 n0 Z0) hown (hw _ (List.mem_of_getElem? (i := 1) rfl)) (hw _ (List.mem_of_getElem? (i := 2) rfl)) (hw _ (List.mem_of_getElem? (i := 3) rfl)) (hw _ (List.mem_of_getElem? (i := 4) rfl)) hy_1 rfl (by rw [hml]; rfl) [] (lenOf pd_0 rfl) rfl 0 (by show 2 * 0 + _ ≤ _; exact Nat.le_of_eq rfl) (hb hby at_104) (by decide) (by decide) (by decide) (by decide) (fun r16 T16 h16 X16 q16 => ?_)
  obtain ⟨rfl, qh16⟩ := q16
  rw [qh16] at X16
  show G T16 (mkF m 107 #[.val (.long q1), .second, .val (.int p2), .val (.int p3), .val (.int p4), .val (.long vv), .second, .val (.int ap), .val (.int ff), .val (.ref b), .unset, .unset] [(.int (f1 vv))])
  refine nameIt (P := fun zz_ : Int32 => G T16 (mkF m 107 #[.val (.long q1), .second, .val (.int p2), .val (.int p3), .val (.int p4), .val (.long vv), .second, .val (.int ap), .val (.int ff), .val (.ref b), .unset, .unset] [(.int zz_)])) (f1 vv) (fun nn hnn => ?_)
  show G T16 (mkF m 107 #[.val (.long q1), .second, .val (.int p2), .val (.int p3), .val (.int p4), .val (.long vv), .second, .val (.int ap), .val (.int ff), .val (.ref b), .unset, .unset] [(.int nn)])
  refine hs.go (fun _ kk_ => XS.istore X16.here hx rfl (hb hby at_107) rfl (l' := #[.val (.long q1), .second, .val (.int p2), .val (.int p3), .val (.int p4), .val (.long vv), .second, .val (.int ap), .val (.int ff), .val (.ref b), .val (.int nn), .unset]) rfl kk_) ?_
  show G T16 (mkF m 109 #[.val (.long q1), .second, .val (.int p2), .val (.int p3), .val (.int p4), .val (.long vv), .second, .val (.int ap), .val (.int ff), .val (.ref b), .val (.int nn), .unset] [])
  obtain ⟨k, hk9, hnk, hgk⟩ := own_cnt hnn
  have HA := own_ap hap
  refine hs.go (fun _ kk_ => XS.lload X16.here hx rfl (hb hby at_109) rfl  kk_) ?_
  show G T16 (mkF m 111 #[.val (.long q1), .second, .val (.int p2), .val (.int p3), .val (.int p4), .val (.long vv), .second, .val (.int ap), .val (.int ff), .val (.ref b), .val (.int nn), .unset] [(.long vv)])
  refine hs.go (fun _ kk_ => XS.aload X16.here hx rfl (hb hby at_111) rfl rfl kk_) ?_
  show G T16 (mkF m 113 #[.val (.long q1), .second, .val (.int p2), .val (.int p3), .val (.int p4), .val (.long vv), .second, .val (.int ap), .val (.int ff), .val (.ref b), .val (.int nn), .unset] [(.ref b), (.long vv)])
  refine hs.go (fun _ kk_ => XS.iload X16.here hx rfl (hb hby at_113) rfl  kk_) ?_
  show G T16 (mkF m 115 #[.val (.long q1), .second, .val (.int p2), .val (.int p3), .val (.int p4), .val (.long vv), .second, .val (.int ap), .val (.int ff), .val (.ref b), .val (.int nn), .unset] [(.int ap), (.ref b), (.long vv)])
  refine rCallS hs X16 hx hZ (as' := [(.long vv), (.ref b), (.int ap)]) (rm2 l Z a0 hw [] vv b ap [ff, ff, ff, ff, ff, ff, ff, ff, ff, ff, ff, ff, ff, ff] k1 ap.toInt.toNat k h15 n0 Z0 V_b g_b rfl (by omega) (by omega) hgk) hown (hw _ (List.mem_of_getElem? (i := 5) rfl)) (hw _ (List.mem_of_getElem? (i := 6) rfl)) (hw _ (List.mem_of_getElem? (i := 7) rfl)) (hw _ (List.mem_of_getElem? (i := 8) rfl)) hy_2 rfl (by rw [hml]; rfl) [] (lenOf pd_1 rfl) rfl 0 (by show 2 * 0 + _ ≤ _; exact Nat.le_of_eq rfl) (hb hby at_115) (by decide) (by decide) (by decide) (by decide) (fun r17 T17 h17 X17 q17 => ?_)
  obtain ⟨r, rfl, hr, Kc17, V_b⟩ := q17
  have Z0 := Nat.le_trans Z0 Kc17.1
  show G T17 (mkF m 118 #[.val (.long q1), .second, .val (.int p2), .val (.int p3), .val (.int p4), .val (.long vv), .second, .val (.int ap), .val (.int ff), .val (.ref b), .val (.int nn), .unset] [(.int r)])
  refine hs.go (fun _ kk_ => XS.istore X17.here hx rfl (hb hby at_118) rfl (l' := #[.val (.long q1), .second, .val (.int p2), .val (.int p3), .val (.int p4), .val (.long vv), .second, .val (.int ap), .val (.int ff), .val (.ref b), .val (.int nn), .val (.int r)]) rfl kk_) ?_
  show G T17 (mkF m 120 #[.val (.long q1), .second, .val (.int p2), .val (.int p3), .val (.int p4), .val (.long vv), .second, .val (.int ap), .val (.int ff), .val (.ref b), .val (.int nn), .val (.int r)] [])
  refine hs.go (fun _ kk_ => XS.iload X17.here hx rfl (hb hby at_120) rfl  kk_) ?_
  show G T17 (mkF m 122 #[.val (.long q1), .second, .val (.int p2), .val (.int p3), .val (.int p4), .val (.long vv), .second, .val (.int ap), .val (.int ff), .val (.ref b), .val (.int nn), .val (.int r)] [(.int r)])
  refine hs.go (fun _ kk_ => XS.iload X17.here hx rfl (hb hby at_122) rfl  kk_) ?_
  show G T17 (mkF m 124 #[.val (.long q1), .second, .val (.int p2), .val (.int p3), .val (.int p4), .val (.long vv), .second, .val (.int ap), .val (.int ff), .val (.ref b), .val (.int nn), .val (.int r)] [(.int ap), (.int r)])
  refine hs.go (fun _ kk_ => XS.iload X17.here hx rfl (hb hby at_124) rfl  kk_) ?_
  show G T17 (mkF m 126 #[.val (.long q1), .second, .val (.int p2), .val (.int p3), .val (.int p4), .val (.long vv), .second, .val (.int ap), .val (.int ff), .val (.ref b), .val (.int nn), .val (.int r)] [(.int nn), (.int ap), (.int r)])
  refine hs.go (fun _ kk_ => XS.iadd X17.here hx rfl (hb hby at_126) rfl kk_) ?_
  show G T17 (mkF m 127 #[.val (.long q1), .second, .val (.int p2), .val (.int p3), .val (.int p4), .val (.long vv), .second, .val (.int ap), .val (.int ff), .val (.ref b), .val (.int nn), .val (.int r)] [(.int (ap + nn)), (.int r)])
  refine hs.go (fun _ kk_ => XS.icmpNo X17.here hx rfl (hb hby at_127) rfl (teq (own_end HA hk9 hnk hr : r = (ap + nn))).2 kk_) ?_
  show G T17 (mkF m 130 #[.val (.long q1), .second, .val (.int p2), .val (.int p3), .val (.int p4), .val (.long vv), .second, .val (.int ap), .val (.int ff), .val (.ref b), .val (.int nn), .val (.int r)] [])
  refine hs.go (fun _ kk_ => XS.aload X17.here hx rfl (hb hby at_130) rfl rfl kk_) ?_
  show G T17 (mkF m 132 #[.val (.long q1), .second, .val (.int p2), .val (.int p3), .val (.int p4), .val (.long vv), .second, .val (.int ap), .val (.int ff), .val (.ref b), .val (.int nn), .val (.int r)] [(.ref b)])
  refine hs.go (fun _ kk_ => XS.iconst X17.here hx rfl (hb hby at_132) kk_) ?_
  show G T17 (mkF m 133 #[.val (.long q1), .second, .val (.int p2), .val (.int p3), .val (.int p4), .val (.long vv), .second, .val (.int ap), .val (.int ff), .val (.ref b), .val (.int nn), .val (.int r)] [(.int (0 : Int32)), (.ref b)])
  refine hs.go (fun _ kk_ => XS.iload X17.here hx rfl (hb hby at_133) rfl  kk_) ?_
  show G T17 (mkF m 135 #[.val (.long q1), .second, .val (.int p2), .val (.int p3), .val (.int p4), .val (.long vv), .second, .val (.int ap), .val (.int ff), .val (.ref b), .val (.int nn), .val (.int r)] [(.int ap), (.int (0 : Int32)), (.ref b)])
  refine hs.go (fun _ kk_ => XS.iload X17.here hx rfl (hb hby at_135) rfl  kk_) ?_
  show G T17 (mkF m 137 #[.val (.long q1), .second, .val (.int p2), .val (.int p3), .val (.int p4), .val (.long vv), .second, .val (.int ap), .val (.int ff), .val (.ref b), .val (.int nn), .val (.int r)] [(.int nn), (.int ap), (.int (0 : Int32)), (.ref b)])
  refine hs.go (fun _ kk_ => XS.lload X17.here hx rfl (hb hby at_137) rfl  kk_) ?_
  show G T17 (mkF m 139 #[.val (.long q1), .second, .val (.int p2), .val (.int p3), .val (.int p4), .val (.long vv), .second, .val (.int ap), .val (.int ff), .val (.ref b), .val (.int nn), .val (.int r)] [(.long vv), (.int nn), (.int ap), (.int (0 : Int32)), (.ref b)])
  refine hs.go (fun _ kk_ => XS.iload X17.here hx rfl (hb hby at_139) rfl  kk_) ?_
  show G T17 (mkF m 141 #[.val (.long q1), .second, .val (.int p2), .val (.int p3), .val (.int p4), .val (.long vv), .second, .val (.int ap), .val (.int ff), .val (.ref b), .val (.int nn), .val (.int r)] [(.int ff), (.long vv), (.int nn), (.int ap), (.int (0 : Int32)), (.ref b)])
  refine rCallS hs X17 hx hZ (as' := [(.ref b), (.int (0 : Int32)), (.int ap), (.int nn), (.long vv), (.int ff)]) (rm3 l Z a0 hw [] b (0 : Int32) ap nn vv ff (encL k vv ap.toInt.toNat [ff, ff, ff, ff, ff, ff, ff, ff, ff, ff, ff, ff, ff, ff]) k1 h17 n0 Z0 V_b ⟨by decide, by decide⟩) hown (hw _ (List.mem_of_getElem? (i := 10) rfl)) (hw _ (List.mem_of_getElem? (i := 11) rfl)) (hw _ (List.mem_of_getElem? (i := 3) rfl)) (hw _ (List.mem_of_getElem? (i := 12) rfl)) hy_3 rfl (by rw [hml]; rfl) [] (lenOf pd_2 rfl) rfl 0 (by show 2 * 0 + _ ≤ _; exact Nat.le_of_eq rfl) (hb hby at_141) (by decide) (by decide) (by decide) (by decide) (fun r18 T18 h18 X18 q18 => ?_)
  obtain ⟨rfl, qh18⟩ := q18
  rw [qh18] at X18
  show G T18 (mkF m 144 #[.val (.long q1), .second, .val (.int p2), .val (.int p3), .val (.int p4), .val (.long vv), .second, .val (.int ap), .val (.int ff), .val (.ref b), .val (.int nn), .val (.int r)] [(.int (f3 (0 : Int32) ap nn vv ff ((encL k vv ap.toInt.toNat [ff, ff, ff, ff, ff, ff, ff, ff, ff, ff, ff, ff, ff, ff]).getD ((0 : Int32)).toNatClampNeg 0)))])
  refine hs.go (fun _ kk_ => XS.ifNo X18.here hx rfl (hb hby at_144) rfl ((if0 _ _).trans (feq (own_ok (0 : Int32) ap nn vv ff k ⟨by decide, by decide⟩ HA hk9 hnk hgk : ¬ ((f3 (0 : Int32) ap nn vv ff ((encL k vv ap.toInt.toNat [ff, ff, ff, ff, ff, ff, ff, ff, ff, ff, ff, ff, ff, ff]).getD ((0 : Int32)).toNatClampNeg 0)) = (0 : Int32)))).1) kk_) ?_
  show G T18 (mkF m 147 #[.val (.long q1), .second, .val (.int p2), .val (.int p3), .val (.int p4), .val (.long vv), .second, .val (.int ap), .val (.int ff), .val (.ref b), .val (.int nn), .val (.int r)] [])
  refine hs.go (fun _ kk_ => XS.aload X18.here hx rfl (hb hby at_147) rfl rfl kk_) ?_
  show G T18 (mkF m 149 #[.val (.long q1), .second, .val (.int p2), .val (.int p3), .val (.int p4), .val (.long vv), .second, .val (.int ap), .val (.int ff), .val (.ref b), .val (.int nn), .val (.int r)] [(.ref b)])
  refine hs.go (fun _ kk_ => XS.iconst X18.here hx rfl (hb hby at_149) kk_) ?_
  show G T18 (mkF m 150 #[.val (.long q1), .second, .val (.int p2), .val (.int p3), .val (.int p4), .val (.long vv), .second, .val (.int ap), .val (.int ff), .val (.ref b), .val (.int nn), .val (.int r)] [(.int (1 : Int32)), (.ref b)])
  refine hs.go (fun _ kk_ => XS.iload X18.here hx rfl (hb hby at_150) rfl  kk_) ?_
  show G T18 (mkF m 152 #[.val (.long q1), .second, .val (.int p2), .val (.int p3), .val (.int p4), .val (.long vv), .second, .val (.int ap), .val (.int ff), .val (.ref b), .val (.int nn), .val (.int r)] [(.int ap), (.int (1 : Int32)), (.ref b)])
  refine hs.go (fun _ kk_ => XS.iload X18.here hx rfl (hb hby at_152) rfl  kk_) ?_
  show G T18 (mkF m 154 #[.val (.long q1), .second, .val (.int p2), .val (.int p3), .val (.int p4), .val (.long vv), .second, .val (.int ap), .val (.int ff), .val (.ref b), .val (.int nn), .val (.int r)] [(.int nn), (.int ap), (.int (1 : Int32)), (.ref b)])
  refine hs.go (fun _ kk_ => XS.lload X18.here hx rfl (hb hby at_154) rfl  kk_) ?_
  show G T18 (mkF m 156 #[.val (.long q1), .second, .val (.int p2), .val (.int p3), .val (.int p4), .val (.long vv), .second, .val (.int ap), .val (.int ff), .val (.ref b), .val (.int nn), .val (.int r)] [(.long vv), (.int nn), (.int ap), (.int (1 : Int32)), (.ref b)])
  refine hs.go (fun _ kk_ => XS.iload X18.here hx rfl (hb hby at_156) rfl  kk_) ?_
  show G T18 (mkF m 158 #[.val (.long q1), .second, .val (.int p2), .val (.int p3), .val (.int p4), .val (.long vv), .second, .val (.int ap), .val (.int ff), .val (.ref b), .val (.int nn), .val (.int r)] [(.int ff), (.long vv), (.int nn), (.int ap), (.int (1 : Int32)), (.ref b)])
  refine rCallS hs X18 hx hZ (as' := [(.ref b), (.int (1 : Int32)), (.int ap), (.int nn), (.long vv), (.int ff)]) (rm3 l Z a0 hw [] b (1 : Int32) ap nn vv ff (encL k vv ap.toInt.toNat [ff, ff, ff, ff, ff, ff, ff, ff, ff, ff, ff, ff, ff, ff]) k1 h17 n0 Z0 V_b ⟨by decide, by decide⟩) hown (hw _ (List.mem_of_getElem? (i := 10) rfl)) (hw _ (List.mem_of_getElem? (i := 11) rfl)) (hw _ (List.mem_of_getElem? (i := 3) rfl)) (hw _ (List.mem_of_getElem? (i := 12) rfl)) hy_3 rfl (by rw [hml]; rfl) [] (lenOf pd_2 rfl) rfl 0 (by show 2 * 0 + _ ≤ _; exact Nat.le_of_eq rfl) (hb hby at_158) (by decide) (by decide) (by decide) (by decide) (fun r19 T19 h19 X19 q19 => ?_)
  obtain ⟨rfl, qh19⟩ := q19
  rw [qh19] at X19
  show G T19 (mkF m 161 #[.val (.long q1), .second, .val (.int p2), .val (.int p3), .val (.int p4), .val (.long vv), .second, .val (.int ap), .val (.int ff), .val (.ref b), .val (.int nn), .val (.int r)] [(.int (f3 (1 : Int32) ap nn vv ff ((encL k vv ap.toInt.toNat [ff, ff, ff, ff, ff, ff, ff, ff, ff, ff, ff, ff, ff, ff]).getD ((1 : Int32)).toNatClampNeg 0)))])
  refine hs.go (fun _ kk_ => XS.ifNo X19.here hx rfl (hb hby at_161) rfl ((if0 _ _).trans (feq (own_ok (1 : Int32) ap nn vv ff k ⟨by decide, by decide⟩ HA hk9 hnk hgk : ¬ ((f3 (1 : Int32) ap nn vv ff ((encL k vv ap.toInt.toNat [ff, ff, ff, ff, ff, ff, ff, ff, ff, ff, ff, ff, ff, ff]).getD ((1 : Int32)).toNatClampNeg 0)) = (0 : Int32)))).1) kk_) ?_
  show G T19 (mkF m 164 #[.val (.long q1), .second, .val (.int p2), .val (.int p3), .val (.int p4), .val (.long vv), .second, .val (.int ap), .val (.int ff), .val (.ref b), .val (.int nn), .val (.int r)] [])
  refine hs.go (fun _ kk_ => XS.aload X19.here hx rfl (hb hby at_164) rfl rfl kk_) ?_
  show G T19 (mkF m 166 #[.val (.long q1), .second, .val (.int p2), .val (.int p3), .val (.int p4), .val (.long vv), .second, .val (.int ap), .val (.int ff), .val (.ref b), .val (.int nn), .val (.int r)] [(.ref b)])
  refine hs.go (fun _ kk_ => XS.iconst X19.here hx rfl (hb hby at_166) kk_) ?_
  show G T19 (mkF m 167 #[.val (.long q1), .second, .val (.int p2), .val (.int p3), .val (.int p4), .val (.long vv), .second, .val (.int ap), .val (.int ff), .val (.ref b), .val (.int nn), .val (.int r)] [(.int (2 : Int32)), (.ref b)])
  refine hs.go (fun _ kk_ => XS.iload X19.here hx rfl (hb hby at_167) rfl  kk_) ?_
  show G T19 (mkF m 169 #[.val (.long q1), .second, .val (.int p2), .val (.int p3), .val (.int p4), .val (.long vv), .second, .val (.int ap), .val (.int ff), .val (.ref b), .val (.int nn), .val (.int r)] [(.int ap), (.int (2 : Int32)), (.ref b)])
  refine hs.go (fun _ kk_ => XS.iload X19.here hx rfl (hb hby at_169) rfl  kk_) ?_
  show G T19 (mkF m 171 #[.val (.long q1), .second, .val (.int p2), .val (.int p3), .val (.int p4), .val (.long vv), .second, .val (.int ap), .val (.int ff), .val (.ref b), .val (.int nn), .val (.int r)] [(.int nn), (.int ap), (.int (2 : Int32)), (.ref b)])
  refine hs.go (fun _ kk_ => XS.lload X19.here hx rfl (hb hby at_171) rfl  kk_) ?_
  show G T19 (mkF m 173 #[.val (.long q1), .second, .val (.int p2), .val (.int p3), .val (.int p4), .val (.long vv), .second, .val (.int ap), .val (.int ff), .val (.ref b), .val (.int nn), .val (.int r)] [(.long vv), (.int nn), (.int ap), (.int (2 : Int32)), (.ref b)])
  refine hs.go (fun _ kk_ => XS.iload X19.here hx rfl (hb hby at_173) rfl  kk_) ?_
  show G T19 (mkF m 175 #[.val (.long q1), .second, .val (.int p2), .val (.int p3), .val (.int p4), .val (.long vv), .second, .val (.int ap), .val (.int ff), .val (.ref b), .val (.int nn), .val (.int r)] [(.int ff), (.long vv), (.int nn), (.int ap), (.int (2 : Int32)), (.ref b)])
  refine rCallS hs X19 hx hZ (as' := [(.ref b), (.int (2 : Int32)), (.int ap), (.int nn), (.long vv), (.int ff)]) (rm3 l Z a0 hw [] b (2 : Int32) ap nn vv ff (encL k vv ap.toInt.toNat [ff, ff, ff, ff, ff, ff, ff, ff, ff, ff, ff, ff, ff, ff]) k1 h17 n0 Z0 V_b ⟨by decide, by decide⟩) hown (hw _ (List.mem_of_getElem? (i := 10) rfl)) (hw _ (List.mem_of_getElem? (i := 11) rfl)) (hw _ (List.mem_of_getElem? (i := 3) rfl)) (hw _ (List.mem_of_getElem? (i := 12) rfl)) hy_3 rfl (by rw [hml]; rfl) [] (lenOf pd_2 rfl) rfl 0 (by show 2 * 0 + _ ≤ _; exact Nat.le_of_eq rfl) (hb hby at_175) (by decide) (by decide) (by decide) (by decide) (fun r20 T20 h20 X20 q20 => ?_)
  obtain ⟨rfl, qh20⟩ := q20
  rw [qh20] at X20
  show G T20 (mkF m 178 #[.val (.long q1), .second, .val (.int p2), .val (.int p3), .val (.int p4), .val (.long vv), .second, .val (.int ap), .val (.int ff), .val (.ref b), .val (.int nn), .val (.int r)] [(.int (f3 (2 : Int32) ap nn vv ff ((encL k vv ap.toInt.toNat [ff, ff, ff, ff, ff, ff, ff, ff, ff, ff, ff, ff, ff, ff]).getD ((2 : Int32)).toNatClampNeg 0)))])
  refine hs.go (fun _ kk_ => XS.ifNo X20.here hx rfl (hb hby at_178) rfl ((if0 _ _).trans (feq (own_ok (2 : Int32) ap nn vv ff k ⟨by decide, by decide⟩ HA hk9 hnk hgk : ¬ ((f3 (2 : Int32) ap nn vv ff ((encL k vv ap.toInt.toNat [ff, ff, ff, ff, ff, ff, ff, ff, ff, ff, ff, ff, ff, ff]).getD ((2 : Int32)).toNatClampNeg 0)) = (0 : Int32)))).1) kk_) ?_
  show G T20 (mkF m 181 #[.val (.long q1), .second, .val (.int p2), .val (.int p3), .val (.int p4), .val (.long vv), .second, .val (.int ap), .val (.int ff), .val (.ref b), .val (.int nn), .val (.int r)] [])
  refine hs.go (fun _ kk_ => XS.aload X20.here hx rfl (hb hby at_181) rfl rfl kk_) ?_
  show G T20 (mkF m 183 #[.val (.long q1), .second, .val (.int p2), .val (.int p3), .val (.int p4), .val (.long vv), .second, .val (.int ap), .val (.int ff), .val (.ref b), .val (.int nn), .val (.int r)] [(.ref b)])
  refine hs.go (fun _ kk_ => XS.iconst X20.here hx rfl (hb hby at_183) kk_) ?_
  show G T20 (mkF m 184 #[.val (.long q1), .second, .val (.int p2), .val (.int p3), .val (.int p4), .val (.long vv), .second, .val (.int ap), .val (.int ff), .val (.ref b), .val (.int nn), .val (.int r)] [(.int (3 : Int32)), (.ref b)])
  refine hs.go (fun _ kk_ => XS.iload X20.here hx rfl (hb hby at_184) rfl  kk_) ?_
  show G T20 (mkF m 186 #[.val (.long q1), .second, .val (.int p2), .val (.int p3), .val (.int p4), .val (.long vv), .second, .val (.int ap), .val (.int ff), .val (.ref b), .val (.int nn), .val (.int r)] [(.int ap), (.int (3 : Int32)), (.ref b)])
  refine hs.go (fun _ kk_ => XS.iload X20.here hx rfl (hb hby at_186) rfl  kk_) ?_
  show G T20 (mkF m 188 #[.val (.long q1), .second, .val (.int p2), .val (.int p3), .val (.int p4), .val (.long vv), .second, .val (.int ap), .val (.int ff), .val (.ref b), .val (.int nn), .val (.int r)] [(.int nn), (.int ap), (.int (3 : Int32)), (.ref b)])
  refine hs.go (fun _ kk_ => XS.lload X20.here hx rfl (hb hby at_188) rfl  kk_) ?_
  show G T20 (mkF m 190 #[.val (.long q1), .second, .val (.int p2), .val (.int p3), .val (.int p4), .val (.long vv), .second, .val (.int ap), .val (.int ff), .val (.ref b), .val (.int nn), .val (.int r)] [(.long vv), (.int nn), (.int ap), (.int (3 : Int32)), (.ref b)])
  refine hs.go (fun _ kk_ => XS.iload X20.here hx rfl (hb hby at_190) rfl  kk_) ?_
  show G T20 (mkF m 192 #[.val (.long q1), .second, .val (.int p2), .val (.int p3), .val (.int p4), .val (.long vv), .second, .val (.int ap), .val (.int ff), .val (.ref b), .val (.int nn), .val (.int r)] [(.int ff), (.long vv), (.int nn), (.int ap), (.int (3 : Int32)), (.ref b)])
  refine rCallS hs X20 hx hZ (as' := [(.ref b), (.int (3 : Int32)), (.int ap), (.int nn), (.long vv), (.int ff)]) (rm3 l Z a0 hw [] b (3 : Int32) ap nn vv ff (encL k vv ap.toInt.toNat [ff, ff, ff, ff, ff, ff, ff, ff, ff, ff, ff, ff, ff, ff]) k1 h17 n0 Z0 V_b ⟨by decide, by decide⟩) hown (hw _ (List.mem_of_getElem? (i := 10) rfl)) (hw _ (List.mem_of_getElem? (i := 11) rfl)) (hw _ (List.mem_of_getElem? (i := 3) rfl)) (hw _ (List.mem_of_getElem? (i := 12) rfl)) hy_3 rfl (by rw [hml]; rfl) [] (lenOf pd_2 rfl) rfl 0 (by show 2 * 0 + _ ≤ _; exact Nat.le_of_eq rfl) (hb hby at_192) (by decide) (by decide) (by decide) (by decide) (fun r21 T21 h21 X21 q21 => ?_)
  obtain ⟨rfl, qh21⟩ := q21
  rw [qh21] at X21
  show G T21 (mkF m 195 #[.val (.long q1), .second, .val (.int p2), .val (.int p3), .val (.int p4), .val (.long vv), .second, .val (.int ap), .val (.int ff), .val (.ref b), .val (.int nn), .val (.int r)] [(.int (f3 (3 : Int32) ap nn vv ff ((encL k vv ap.toInt.toNat [ff, ff, ff, ff, ff, ff, ff, ff, ff, ff, ff, ff, ff, ff]).getD ((3 : Int32)).toNatClampNeg 0)))])
  refine hs.go (fun _ kk_ => XS.ifNo X21.here hx rfl (hb hby at_195) rfl ((if0 _ _).trans (feq (own_ok (3 : Int32) ap nn vv ff k ⟨by decide, by decide⟩ HA hk9 hnk hgk : ¬ ((f3 (3 : Int32) ap nn vv ff ((encL k vv ap.toInt.toNat [ff, ff, ff, ff, ff, ff, ff, ff, ff, ff, ff, ff, ff, ff]).getD ((3 : Int32)).toNatClampNeg 0)) = (0 : Int32)))).1) kk_) ?_
  show G T21 (mkF m 198 #[.val (.long q1), .second, .val (.int p2), .val (.int p3), .val (.int p4), .val (.long vv), .second, .val (.int ap), .val (.int ff), .val (.ref b), .val (.int nn), .val (.int r)] [])
  refine hs.go (fun _ kk_ => XS.aload X21.here hx rfl (hb hby at_198) rfl rfl kk_) ?_
  show G T21 (mkF m 200 #[.val (.long q1), .second, .val (.int p2), .val (.int p3), .val (.int p4), .val (.long vv), .second, .val (.int ap), .val (.int ff), .val (.ref b), .val (.int nn), .val (.int r)] [(.ref b)])
  refine hs.go (fun _ kk_ => XS.iconst X21.here hx rfl (hb hby at_200) kk_) ?_
  show G T21 (mkF m 201 #[.val (.long q1), .second, .val (.int p2), .val (.int p3), .val (.int p4), .val (.long vv), .second, .val (.int ap), .val (.int ff), .val (.ref b), .val (.int nn), .val (.int r)] [(.int (4 : Int32)), (.ref b)])
  refine hs.go (fun _ kk_ => XS.iload X21.here hx rfl (hb hby at_201) rfl  kk_) ?_
  show G T21 (mkF m 203 #[.val (.long q1), .second, .val (.int p2), .val (.int p3), .val (.int p4), .val (.long vv), .second, .val (.int ap), .val (.int ff), .val (.ref b), .val (.int nn), .val (.int r)] [(.int ap), (.int (4 : Int32)), (.ref b)])
  refine hs.go (fun _ kk_ => XS.iload X21.here hx rfl (hb hby at_203) rfl  kk_) ?_
  show G T21 (mkF m 205 #[.val (.long q1), .second, .val (.int p2), .val (.int p3), .val (.int p4), .val (.long vv), .second, .val (.int ap), .val (.int ff), .val (.ref b), .val (.int nn), .val (.int r)] [(.int nn), (.int ap), (.int (4 : Int32)), (.ref b)])
  refine hs.go (fun _ kk_ => XS.lload X21.here hx rfl (hb hby at_205) rfl  kk_) ?_
  show G T21 (mkF m 207 #[.val (.long q1), .second, .val (.int p2), .val (.int p3), .val (.int p4), .val (.long vv), .second, .val (.int ap), .val (.int ff), .val (.ref b), .val (.int nn), .val (.int r)] [(.long vv), (.int nn), (.int ap), (.int (4 : Int32)), (.ref b)])
  refine hs.go (fun _ kk_ => XS.iload X21.here hx rfl (hb hby at_207) rfl  kk_) ?_
  show G T21 (mkF m 209 #[.val (.long q1), .second, .val (.int p2), .val (.int p3), .val (.int p4), .val (.long vv), .second, .val (.int ap), .val (.int ff), .val (.ref b), .val (.int nn), .val (.int r)] [(.int ff), (.long vv), (.int nn), (.int ap), (.int (4 : Int32)), (.ref b)])
  refine rCallS hs X21 hx hZ (as' := [(.ref b), (.int (4 : Int32)), (.int ap), (.int nn), (.long vv), (.int ff)]) (rm3 l Z a0 hw [] b (4 : Int32) ap nn vv ff (encL k vv ap.toInt.toNat [ff, ff, ff, ff, ff, ff, ff, ff, ff, ff, ff, ff, ff, ff]) k1 h17 n0 Z0 V_b ⟨by decide, by decide⟩) hown (hw _ (List.mem_of_getElem? (i := 10) rfl)) (hw _ (List.mem_of_getElem? (i := 11) rfl)) (hw _ (List.mem_of_getElem? (i := 3) rfl)) (hw _ (List.mem_of_getElem? (i := 12) rfl)) hy_3 rfl (by rw [hml]; rfl) [] (lenOf pd_2 rfl) rfl 0 (by show 2 * 0 + _ ≤ _; exact Nat.le_of_eq rfl) (hb hby at_209) (by decide) (by decide) (by decide) (by decide) (fun r22 T22 h22 X22 q22 => ?_)
  obtain ⟨rfl, qh22⟩ := q22
  rw [qh22] at X22
  show G T22 (mkF m 212 #[.val (.long q1), .second, .val (.int p2), .val (.int p3), .val (.int p4), .val (.long vv), .second, .val (.int ap), .val (.int ff), .val (.ref b), .val (.int nn), .val (.int r)] [(.int (f3 (4 : Int32) ap nn vv ff ((encL k vv ap.toInt.toNat [ff, ff, ff, ff, ff, ff, ff, ff, ff, ff, ff, ff, ff, ff]).getD ((4 : Int32)).toNatClampNeg 0)))])
  refine hs.go (fun _ kk_ => XS.ifNo X22.here hx rfl (hb hby at_212) rfl ((if0 _ _).trans (feq (own_ok (4 : Int32) ap nn vv ff k ⟨by decide, by decide⟩ HA hk9 hnk hgk : ¬ ((f3 (4 : Int32) ap nn vv ff ((encL k vv ap.toInt.toNat [ff, ff, ff, ff, ff, ff, ff, ff, ff, ff, ff, ff, ff, ff]).getD ((4 : Int32)).toNatClampNeg 0)) = (0 : Int32)))).1) kk_) ?_
  show G T22 (mkF m 215 #[.val (.long q1), .second, .val (.int p2), .val (.int p3), .val (.int p4), .val (.long vv), .second, .val (.int ap), .val (.int ff), .val (.ref b), .val (.int nn), .val (.int r)] [])
  refine hs.go (fun _ kk_ => XS.aload X22.here hx rfl (hb hby at_215) rfl rfl kk_) ?_
  show G T22 (mkF m 217 #[.val (.long q1), .second, .val (.int p2), .val (.int p3), .val (.int p4), .val (.long vv), .second, .val (.int ap), .val (.int ff), .val (.ref b), .val (.int nn), .val (.int r)] [(.ref b)])
  refine hs.go (fun _ kk_ => XS.iconst X22.here hx rfl (hb hby at_217) kk_) ?_
  show G T22 (mkF m 218 #[.val (.long q1), .second, .val (.int p2), .val (.int p3), .val (.int p4), .val (.long vv), .second, .val (.int ap), .val (.int ff), .val (.ref b), .val (.int nn), .val (.int r)] [(.int (5 : Int32)), (.ref b)])
  refine hs.go (fun _ kk_ => XS.iload X22.here hx rfl (hb hby at_218) rfl  kk_) ?_
  show G T22 (mkF m 220 #[.val (.long q1), .second, .val (.int p2), .val (.int p3), .val (.int p4), .val (.long vv), .second, .val (.int ap), .val (.int ff), .val (.ref b), .val (.int nn), .val (.int r)] [(.int ap), (.int (5 : Int32)), (.ref b)])
  refine hs.go (fun _ kk_ => XS.iload X22.here hx rfl (hb hby at_220) rfl  kk_) ?_
  show G T22 (mkF m 222 #[.val (.long q1), .second, .val (.int p2), .val (.int p3), .val (.int p4), .val (.long vv), .second, .val (.int ap), .val (.int ff), .val (.ref b), .val (.int nn), .val (.int r)] [(.int nn), (.int ap), (.int (5 : Int32)), (.ref b)])
  refine hs.go (fun _ kk_ => XS.lload X22.here hx rfl (hb hby at_222) rfl  kk_) ?_
  show G T22 (mkF m 224 #[.val (.long q1), .second, .val (.int p2), .val (.int p3), .val (.int p4), .val (.long vv), .second, .val (.int ap), .val (.int ff), .val (.ref b), .val (.int nn), .val (.int r)] [(.long vv), (.int nn), (.int ap), (.int (5 : Int32)), (.ref b)])
  refine hs.go (fun _ kk_ => XS.iload X22.here hx rfl (hb hby at_224) rfl  kk_) ?_
  show G T22 (mkF m 226 #[.val (.long q1), .second, .val (.int p2), .val (.int p3), .val (.int p4), .val (.long vv), .second, .val (.int ap), .val (.int ff), .val (.ref b), .val (.int nn), .val (.int r)] [(.int ff), (.long vv), (.int nn), (.int ap), (.int (5 : Int32)), (.ref b)])
  refine rCallS hs X22 hx hZ (as' := [(.ref b), (.int (5 : Int32)), (.int ap), (.int nn), (.long vv), (.int ff)]) (rm3 l Z a0 hw [] b (5 : Int32) ap nn vv ff (encL k vv ap.toInt.toNat [ff, ff, ff, ff, ff, ff, ff, ff, ff, ff, ff, ff, ff, ff]) k1 h17 n0 Z0 V_b ⟨by decide, by decide⟩) hown (hw _ (List.mem_of_getElem? (i := 10) rfl)) (hw _ (List.mem_of_getElem? (i := 11) rfl)) (hw _ (List.mem_of_getElem? (i := 3) rfl)) (hw _ (List.mem_of_getElem? (i := 12) rfl)) hy_3 rfl (by rw [hml]; rfl) [] (lenOf pd_2 rfl) rfl 0 (by show 2 * 0 + _ ≤ _; exact Nat.le_of_eq rfl) (hb hby at_226) (by decide) (by decide) (by decide) (by decide) (fun r23 T23 h23 X23 q23 => ?_)
  obtain ⟨rfl, qh23⟩ := q23
  rw [qh23] at X23
  show G T23 (mkF m 229 #[.val (.long q1), .second, .val (.int p2), .val (.int p3), .val (.int p4), .val (.long vv), .second, .val (.int ap), .val (.int ff), .val (.ref b), .val (.int nn), .val (.int r)] [(.int (f3 (5 : Int32) ap nn vv ff ((encL k vv ap.toInt.toNat [ff, ff, ff, ff, ff, ff, ff, ff, ff, ff, ff, ff, ff, ff]).getD ((5 : Int32)).toNatClampNeg 0)))])
  refine hs.go (fun _ kk_ => XS.ifNo X23.here hx rfl (hb hby at_229) rfl ((if0 _ _).trans (feq (own_ok (5 : Int32) ap nn vv ff k ⟨by decide, by decide⟩ HA hk9 hnk hgk : ¬ ((f3 (5 : Int32) ap nn vv ff ((encL k vv ap.toInt.toNat [ff, ff, ff, ff, ff, ff, ff, ff, ff, ff, ff, ff, ff, ff]).getD ((5 : Int32)).toNatClampNeg 0)) = (0 : Int32)))).1) kk_) ?_
  show G T23 (mkF m 232 #[.val (.long q1), .second, .val (.int p2), .val (.int p3), .val (.int p4), .val (.long vv), .second, .val (.int ap), .val (.int ff), .val (.ref b), .val (.int nn), .val (.int r)] [])
  refine hs.go (fun _ kk_ => XS.aload X23.here hx rfl (hb hby at_232) rfl rfl kk_) ?_
  show G T23 (mkF m 234 #[.val (.long q1), .second, .val (.int p2), .val (.int p3), .val (.int p4), .val (.long vv), .second, .val (.int ap), .val (.int ff), .val (.ref b), .val (.int nn), .val (.int r)] [(.ref b)])
  refine hs.go (fun _ kk_ => XS.bipush X23.here hx rfl (hb hby at_234) kk_) ?_
  show G T23 (mkF m 236 #[.val (.long q1), .second, .val (.int p2), .val (.int p3), .val (.int p4), .val (.long vv), .second, .val (.int ap), .val (.int ff), .val (.ref b), .val (.int nn), .val (.int r)] [(.int (6 : Int32)), (.ref b)])
  refine hs.go (fun _ kk_ => XS.iload X23.here hx rfl (hb hby at_236) rfl  kk_) ?_
  show G T23 (mkF m 238 #[.val (.long q1), .second, .val (.int p2), .val (.int p3), .val (.int p4), .val (.long vv), .second, .val (.int ap), .val (.int ff), .val (.ref b), .val (.int nn), .val (.int r)] [(.int ap), (.int (6 : Int32)), (.ref b)])
  refine hs.go (fun _ kk_ => XS.iload X23.here hx rfl (hb hby at_238) rfl  kk_) ?_
  show G T23 (mkF m 240 #[.val (.long q1), .second, .val (.int p2), .val (.int p3), .val (.int p4), .val (.long vv), .second, .val (.int ap), .val (.int ff), .val (.ref b), .val (.int nn), .val (.int r)] [(.int nn), (.int ap), (.int (6 : Int32)), (.ref b)])
  refine hs.go (fun _ kk_ => XS.lload X23.here hx rfl (hb hby at_240) rfl  kk_) ?_
  show G T23 (mkF m 242 #[.val (.long q1), .second, .val (.int p2), .val (.int p3), .val (.int p4), .val (.long vv), .second, .val (.int ap), .val (.int ff), .val (.ref b), .val (.int nn), .val (.int r)] [(.long vv), (.int nn), (.int ap), (.int (6 : Int32)), (.ref b)])
  refine hs.go (fun _ kk_ => XS.iload X23.here hx rfl (hb hby at_242) rfl  kk_) ?_
  show G T23 (mkF m 244 #[.val (.long q1), .second, .val (.int p2), .val (.int p3), .val (.int p4), .val (.long vv), .second, .val (.int ap), .val (.int ff), .val (.ref b), .val (.int nn), .val (.int r)] [(.int ff), (.long vv), (.int nn), (.int ap), (.int (6 : Int32)), (.ref b)])
  refine rCallS hs X23 hx hZ (as' := [(.ref b), (.int (6 : Int32)), (.int ap), (.int nn), (.long vv), (.int ff)]) (rm3 l Z a0 hw [] b (6 : Int32) ap nn vv ff (encL k vv ap.toInt.toNat [ff, ff, ff, ff, ff, ff, ff, ff, ff, ff, ff, ff, ff, ff]) k1 h17 n0 Z0 V_b ⟨by decide, by decide⟩) hown (hw _ (List.mem_of_getElem? (i := 10) rfl)) (hw _ (List.mem_of_getElem? (i := 11) rfl)) (hw _ (List.mem_of_getElem? (i := 3) rfl)) (hw _ (List.mem_of_getElem? (i := 12) rfl)) hy_3 rfl (by rw [hml]; rfl) [] (lenOf pd_2 rfl) rfl 0 (by show 2 * 0 + _ ≤ _; exact Nat.le_of_eq rfl) (hb hby at_244) (by decide) (by decide) (by decide) (by decide) (fun r24 T24 h24 X24 q24 => ?_)
  obtain ⟨rfl, qh24⟩ := q24
  rw [qh24] at X24
  show G T24 (mkF m 247 #[.val (.long q1), .second, .val (.int p2), .val (.int p3), .val (.int p4), .val (.long vv), .second, .val (.int ap), .val (.int ff), .val (.ref b), .val (.int nn), .val (.int r)] [(.int (f3 (6 : Int32) ap nn vv ff ((encL k vv ap.toInt.toNat [ff, ff, ff, ff, ff, ff, ff, ff, ff, ff, ff, ff, ff, ff]).getD ((6 : Int32)).toNatClampNeg 0)))])
  refine hs.go (fun _ kk_ => XS.ifNo X24.here hx rfl (hb hby at_247) rfl ((if0 _ _).trans (feq (own_ok (6 : Int32) ap nn vv ff k ⟨by decide, by decide⟩ HA hk9 hnk hgk : ¬ ((f3 (6 : Int32) ap nn vv ff ((encL k vv ap.toInt.toNat [ff, ff, ff, ff, ff, ff, ff, ff, ff, ff, ff, ff, ff, ff]).getD ((6 : Int32)).toNatClampNeg 0)) = (0 : Int32)))).1) kk_) ?_
  show G T24 (mkF m 250 #[.val (.long q1), .second, .val (.int p2), .val (.int p3), .val (.int p4), .val (.long vv), .second, .val (.int ap), .val (.int ff), .val (.ref b), .val (.int nn), .val (.int r)] [])
  refine hs.go (fun _ kk_ => XS.aload X24.here hx rfl (hb hby at_250) rfl rfl kk_) ?_
  show G T24 (mkF m 252 #[.val (.long q1), .second, .val (.int p2), .val (.int p3), .val (.int p4), .val (.long vv), .second, .val (.int ap), .val (.int ff), .val (.ref b), .val (.int nn), .val (.int r)] [(.ref b)])
  refine hs.go (fun _ kk_ => XS.bipush X24.here hx rfl (hb hby at_252) kk_) ?_
  show G T24 (mkF m 254 #[.val (.long q1), .second, .val (.int p2), .val (.int p3), .val (.int p4), .val (.long vv), .second, .val (.int ap), .val (.int ff), .val (.ref b), .val (.int nn), .val (.int r)] [(.int (7 : Int32)), (.ref b)])
  refine hs.go (fun _ kk_ => XS.iload X24.here hx rfl (hb hby at_254) rfl  kk_) ?_
  show G T24 (mkF m 256 #[.val (.long q1), .second, .val (.int p2), .val (.int p3), .val (.int p4), .val (.long vv), .second, .val (.int ap), .val (.int ff), .val (.ref b), .val (.int nn), .val (.int r)] [(.int ap), (.int (7 : Int32)), (.ref b)])
  refine hs.go (fun _ kk_ => XS.iload X24.here hx rfl (hb hby at_256) rfl  kk_) ?_
  show G T24 (mkF m 258 #[.val (.long q1), .second, .val (.int p2), .val (.int p3), .val (.int p4), .val (.long vv), .second, .val (.int ap), .val (.int ff), .val (.ref b), .val (.int nn), .val (.int r)] [(.int nn), (.int ap), (.int (7 : Int32)), (.ref b)])
  refine hs.go (fun _ kk_ => XS.lload X24.here hx rfl (hb hby at_258) rfl  kk_) ?_
  show G T24 (mkF m 260 #[.val (.long q1), .second, .val (.int p2), .val (.int p3), .val (.int p4), .val (.long vv), .second, .val (.int ap), .val (.int ff), .val (.ref b), .val (.int nn), .val (.int r)] [(.long vv), (.int nn), (.int ap), (.int (7 : Int32)), (.ref b)])
  refine hs.go (fun _ kk_ => XS.iload X24.here hx rfl (hb hby at_260) rfl  kk_) ?_
  show G T24 (mkF m 262 #[.val (.long q1), .second, .val (.int p2), .val (.int p3), .val (.int p4), .val (.long vv), .second, .val (.int ap), .val (.int ff), .val (.ref b), .val (.int nn), .val (.int r)] [(.int ff), (.long vv), (.int nn), (.int ap), (.int (7 : Int32)), (.ref b)])
  refine rCallS hs X24 hx hZ (as' := [(.ref b), (.int (7 : Int32)), (.int ap), (.int nn), (.long vv), (.int ff)]) (rm3 l Z a0 hw [] b (7 : Int32) ap nn vv ff (encL k vv ap.toInt.toNat [ff, ff, ff, ff, ff, ff, ff, ff, ff, ff, ff, ff, ff, ff]) k1 h17 n0 Z0 V_b ⟨by decide, by decide⟩) hown (hw _ (List.mem_of_getElem? (i := 10) rfl)) (hw _ (List.mem_of_getElem? (i := 11) rfl)) (hw _ (List.mem_of_getElem? (i := 3) rfl)) (hw _ (List.mem_of_getElem? (i := 12) rfl)) hy_3 rfl (by rw [hml]; rfl) [] (lenOf pd_2 rfl) rfl 0 (by show 2 * 0 + _ ≤ _; exact Nat.le_of_eq rfl) (hb hby at_262) (by decide) (by decide) (by decide) (by decide) (fun r25 T25 h25 X25 q25 => ?_)
  obtain ⟨rfl, qh25⟩ := q25
  rw [qh25] at X25
  show G T25 (mkF m 265 #[.val (.long q1), .second, .val (.int p2), .val (.int p3), .val (.int p4), .val (.long vv), .second, .val (.int ap), .val (.int ff), .val (.ref b), .val (.int nn), .val (.int r)] [(.int (f3 (7 : Int32) ap nn vv ff ((encL k vv ap.toInt.toNat [ff, ff, ff, ff, ff, ff, ff, ff, ff, ff, ff, ff, ff, ff]).getD ((7 : Int32)).toNatClampNeg 0)))])
  refine hs.go (fun _ kk_ => XS.ifNo X25.here hx rfl (hb hby at_265) rfl ((if0 _ _).trans (feq (own_ok (7 : Int32) ap nn vv ff k ⟨by decide, by decide⟩ HA hk9 hnk hgk : ¬ ((f3 (7 : Int32) ap nn vv ff ((encL k vv ap.toInt.toNat [ff, ff, ff, ff, ff, ff, ff, ff, ff, ff, ff, ff, ff, ff]).getD ((7 : Int32)).toNatClampNeg 0)) = (0 : Int32)))).1) kk_) ?_
  show G T25 (mkF m 268 #[.val (.long q1), .second, .val (.int p2), .val (.int p3), .val (.int p4), .val (.long vv), .second, .val (.int ap), .val (.int ff), .val (.ref b), .val (.int nn), .val (.int r)] [])
  refine hs.go (fun _ kk_ => XS.aload X25.here hx rfl (hb hby at_268) rfl rfl kk_) ?_
  show G T25 (mkF m 270 #[.val (.long q1), .second, .val (.int p2), .val (.int p3), .val (.int p4), .val (.long vv), .second, .val (.int ap), .val (.int ff), .val (.ref b), .val (.int nn), .val (.int r)] [(.ref b)])
  refine hs.go (fun _ kk_ => XS.bipush X25.here hx rfl (hb hby at_270) kk_) ?_
  show G T25 (mkF m 272 #[.val (.long q1), .second, .val (.int p2), .val (.int p3), .val (.int p4), .val (.long vv), .second, .val (.int ap), .val (.int ff), .val (.ref b), .val (.int nn), .val (.int r)] [(.int (8 : Int32)), (.ref b)])
  refine hs.go (fun _ kk_ => XS.iload X25.here hx rfl (hb hby at_272) rfl  kk_) ?_
  show G T25 (mkF m 274 #[.val (.long q1), .second, .val (.int p2), .val (.int p3), .val (.int p4), .val (.long vv), .second, .val (.int ap), .val (.int ff), .val (.ref b), .val (.int nn), .val (.int r)] [(.int ap), (.int (8 : Int32)), (.ref b)])
  refine hs.go (fun _ kk_ => XS.iload X25.here hx rfl (hb hby at_274) rfl  kk_) ?_
  show G T25 (mkF m 276 #[.val (.long q1), .second, .val (.int p2), .val (.int p3), .val (.int p4), .val (.long vv), .second, .val (.int ap), .val (.int ff), .val (.ref b), .val (.int nn), .val (.int r)] [(.int nn), (.int ap), (.int (8 : Int32)), (.ref b)])
  refine hs.go (fun _ kk_ => XS.lload X25.here hx rfl (hb hby at_276) rfl  kk_) ?_
  show G T25 (mkF m 278 #[.val (.long q1), .second, .val (.int p2), .val (.int p3), .val (.int p4), .val (.long vv), .second, .val (.int ap), .val (.int ff), .val (.ref b), .val (.int nn), .val (.int r)] [(.long vv), (.int nn), (.int ap), (.int (8 : Int32)), (.ref b)])
  refine hs.go (fun _ kk_ => XS.iload X25.here hx rfl (hb hby at_278) rfl  kk_) ?_
  show G T25 (mkF m 280 #[.val (.long q1), .second, .val (.int p2), .val (.int p3), .val (.int p4), .val (.long vv), .second, .val (.int ap), .val (.int ff), .val (.ref b), .val (.int nn), .val (.int r)] [(.int ff), (.long vv), (.int nn), (.int ap), (.int (8 : Int32)), (.ref b)])
  refine rCallS hs X25 hx hZ (as' := [(.ref b), (.int (8 : Int32)), (.int ap), (.int nn), (.long vv), (.int ff)]) (rm3 l Z a0 hw [] b (8 : Int32) ap nn vv ff (encL k vv ap.toInt.toNat [ff, ff, ff, ff, ff, ff, ff, ff, ff, ff, ff, ff, ff, ff]) k1 h17 n0 Z0 V_b ⟨by decide, by decide⟩) hown (hw _ (List.mem_of_getElem? (i := 10) rfl)) (hw _ (List.mem_of_getElem? (i := 11) rfl)) (hw _ (List.mem_of_getElem? (i := 3) rfl)) (hw _ (List.mem_of_getElem? (i := 12) rfl)) hy_3 rfl (by rw [hml]; rfl) [] (lenOf pd_2 rfl) rfl 0 (by show 2 * 0 + _ ≤ _; exact Nat.le_of_eq rfl) (hb hby at_280) (by decide) (by decide) (by decide) (by decide) (fun r26 T26 h26 X26 q26 => ?_)
  obtain ⟨rfl, qh26⟩ := q26
  rw [qh26] at X26
  show G T26 (mkF m 283 #[.val (.long q1), .second, .val (.int p2), .val (.int p3), .val (.int p4), .val (.long vv), .second, .val (.int ap), .val (.int ff), .val (.ref b), .val (.int nn), .val (.int r)] [(.int (f3 (8 : Int32) ap nn vv ff ((encL k vv ap.toInt.toNat [ff, ff, ff, ff, ff, ff, ff, ff, ff, ff, ff, ff, ff, ff]).getD ((8 : Int32)).toNatClampNeg 0)))])
  refine hs.go (fun _ kk_ => XS.ifNo X26.here hx rfl (hb hby at_283) rfl ((if0 _ _).trans (feq (own_ok (8 : Int32) ap nn vv ff k ⟨by decide, by decide⟩ HA hk9 hnk hgk : ¬ ((f3 (8 : Int32) ap nn vv ff ((encL k vv ap.toInt.toNat [ff, ff, ff, ff, ff, ff, ff, ff, ff, ff, ff, ff, ff, ff]).getD ((8 : Int32)).toNatClampNeg 0)) = (0 : Int32)))).1) kk_) ?_
  show G T26 (mkF m 286 #[.val (.long q1), .second, .val (.int p2), .val (.int p3), .val (.int p4), .val (.long vv), .second, .val (.int ap), .val (.int ff), .val (.ref b), .val (.int nn), .val (.int r)] [])
  refine hs.go (fun _ kk_ => XS.aload X26.here hx rfl (hb hby at_286) rfl rfl kk_) ?_
  show G T26 (mkF m 288 #[.val (.long q1), .second, .val (.int p2), .val (.int p3), .val (.int p4), .val (.long vv), .second, .val (.int ap), .val (.int ff), .val (.ref b), .val (.int nn), .val (.int r)] [(.ref b)])
  refine hs.go (fun _ kk_ => XS.bipush X26.here hx rfl (hb hby at_288) kk_) ?_
  show G T26 (mkF m 290 #[.val (.long q1), .second, .val (.int p2), .val (.int p3), .val (.int p4), .val (.long vv), .second, .val (.int ap), .val (.int ff), .val (.ref b), .val (.int nn), .val (.int r)] [(.int (9 : Int32)), (.ref b)])
  refine hs.go (fun _ kk_ => XS.iload X26.here hx rfl (hb hby at_290) rfl  kk_) ?_
  show G T26 (mkF m 292 #[.val (.long q1), .second, .val (.int p2), .val (.int p3), .val (.int p4), .val (.long vv), .second, .val (.int ap), .val (.int ff), .val (.ref b), .val (.int nn), .val (.int r)] [(.int ap), (.int (9 : Int32)), (.ref b)])
  refine hs.go (fun _ kk_ => XS.iload X26.here hx rfl (hb hby at_292) rfl  kk_) ?_
  show G T26 (mkF m 294 #[.val (.long q1), .second, .val (.int p2), .val (.int p3), .val (.int p4), .val (.long vv), .second, .val (.int ap), .val (.int ff), .val (.ref b), .val (.int nn), .val (.int r)] [(.int nn), (.int ap), (.int (9 : Int32)), (.ref b)])
  refine hs.go (fun _ kk_ => XS.lload X26.here hx rfl (hb hby at_294) rfl  kk_) ?_
  show G T26 (mkF m 296 #[.val (.long q1), .second, .val (.int p2), .val (.int p3), .val (.int p4), .val (.long vv), .second, .val (.int ap), .val (.int ff), .val (.ref b), .val (.int nn), .val (.int r)] [(.long vv), (.int nn), (.int ap), (.int (9 : Int32)), (.ref b)])
  refine hs.go (fun _ kk_ => XS.iload X26.here hx rfl (hb hby at_296) rfl  kk_) ?_
  show G T26 (mkF m 298 #[.val (.long q1), .second, .val (.int p2), .val (.int p3), .val (.int p4), .val (.long vv), .second, .val (.int ap), .val (.int ff), .val (.ref b), .val (.int nn), .val (.int r)] [(.int ff), (.long vv), (.int nn), (.int ap), (.int (9 : Int32)), (.ref b)])
  refine rCallS hs X26 hx hZ (as' := [(.ref b), (.int (9 : Int32)), (.int ap), (.int nn), (.long vv), (.int ff)]) (rm3 l Z a0 hw [] b (9 : Int32) ap nn vv ff (encL k vv ap.toInt.toNat [ff, ff, ff, ff, ff, ff, ff, ff, ff, ff, ff, ff, ff, ff]) k1 h17 n0 Z0 V_b ⟨by decide, by decide⟩) hown (hw _ (List.mem_of_getElem? (i := 10) rfl)) (hw _ (List.mem_of_getElem? (i := 11) rfl)) (hw _ (List.mem_of_getElem? (i := 3) rfl)) (hw _ (List.mem_of_getElem? (i := 12) rfl)) hy_3 rfl (by rw [hml]; rfl) [] (lenOf pd_2 rfl) rfl 0 (by show 2 * 0 + _ ≤ _; exact Nat.le_of_eq rfl) (hb hby at_298) (by decide) (by decide) (by decide) (by decide) (fun r27 T27 h27 X27 q27 => ?_)
  obtain ⟨rfl, qh27⟩ := q27
  rw [qh27] at X27
  show G T27 (mkF m 301 #[.val (.long q1), .second, .val (.int p2), .val (.int p3), .val (.int p4), .val (.long vv), .second, .val (.int ap), .val (.int ff), .val (.ref b), .val (.int nn), .val (.int r)] [(.int (f3 (9 : Int32) ap nn vv ff ((encL k vv ap.toInt.toNat [ff, ff, ff, ff, ff, ff, ff, ff, ff, ff, ff, ff, ff, ff]).getD ((9 : Int32)).toNatClampNeg 0)))])
  refine hs.go (fun _ kk_ => XS.ifNo X27.here hx rfl (hb hby at_301) rfl ((if0 _ _).trans (feq (own_ok (9 : Int32) ap nn vv ff k ⟨by decide, by decide⟩ HA hk9 hnk hgk : ¬ ((f3 (9 : Int32) ap nn vv ff ((encL k vv ap.toInt.toNat [ff, ff, ff, ff, ff, ff, ff, ff, ff, ff, ff, ff, ff, ff]).getD ((9 : Int32)).toNatClampNeg 0)) = (0 : Int32)))).1) kk_) ?_
  show G T27 (mkF m 304 #[.val (.long q1), .second, .val (.int p2), .val (.int p3), .val (.int p4), .val (.long vv), .second, .val (.int ap), .val (.int ff), .val (.ref b), .val (.int nn), .val (.int r)] [])
  refine hs.go (fun _ kk_ => XS.aload X27.here hx rfl (hb hby at_304) rfl rfl kk_) ?_
  show G T27 (mkF m 306 #[.val (.long q1), .second, .val (.int p2), .val (.int p3), .val (.int p4), .val (.long vv), .second, .val (.int ap), .val (.int ff), .val (.ref b), .val (.int nn), .val (.int r)] [(.ref b)])
  refine hs.go (fun _ kk_ => XS.bipush X27.here hx rfl (hb hby at_306) kk_) ?_
  show G T27 (mkF m 308 #[.val (.long q1), .second, .val (.int p2), .val (.int p3), .val (.int p4), .val (.long vv), .second, .val (.int ap), .val (.int ff), .val (.ref b), .val (.int nn), .val (.int r)] [(.int (10 : Int32)), (.ref b)])
  refine hs.go (fun _ kk_ => XS.iload X27.here hx rfl (hb hby at_308) rfl  kk_) ?_
  show G T27 (mkF m 310 #[.val (.long q1), .second, .val (.int p2), .val (.int p3), .val (.int p4), .val (.long vv), .second, .val (.int ap), .val (.int ff), .val (.ref b), .val (.int nn), .val (.int r)] [(.int ap), (.int (10 : Int32)), (.ref b)])
  refine hs.go (fun _ kk_ => XS.iload X27.here hx rfl (hb hby at_310) rfl  kk_) ?_
  show G T27 (mkF m 312 #[.val (.long q1), .second, .val (.int p2), .val (.int p3), .val (.int p4), .val (.long vv), .second, .val (.int ap), .val (.int ff), .val (.ref b), .val (.int nn), .val (.int r)] [(.int nn), (.int ap), (.int (10 : Int32)), (.ref b)])
  refine hs.go (fun _ kk_ => XS.lload X27.here hx rfl (hb hby at_312) rfl  kk_) ?_
  show G T27 (mkF m 314 #[.val (.long q1), .second, .val (.int p2), .val (.int p3), .val (.int p4), .val (.long vv), .second, .val (.int ap), .val (.int ff), .val (.ref b), .val (.int nn), .val (.int r)] [(.long vv), (.int nn), (.int ap), (.int (10 : Int32)), (.ref b)])
  refine hs.go (fun _ kk_ => XS.iload X27.here hx rfl (hb hby at_314) rfl  kk_) ?_
  show G T27 (mkF m 316 #[.val (.long q1), .second, .val (.int p2), .val (.int p3), .val (.int p4), .val (.long vv), .second, .val (.int ap), .val (.int ff), .val (.ref b), .val (.int nn), .val (.int r)] [(.int ff), (.long vv), (.int nn), (.int ap), (.int (10 : Int32)), (.ref b)])
  refine rCallS hs X27 hx hZ (as' := [(.ref b), (.int (10 : Int32)), (.int ap), (.int nn), (.long vv), (.int ff)]) (rm3 l Z a0 hw [] b (10 : Int32) ap nn vv ff (encL k vv ap.toInt.toNat [ff, ff, ff, ff, ff, ff, ff, ff, ff, ff, ff, ff, ff, ff]) k1 h17 n0 Z0 V_b ⟨by decide, by decide⟩) hown (hw _ (List.mem_of_getElem? (i := 10) rfl)) (hw _ (List.mem_of_getElem? (i := 11) rfl)) (hw _ (List.mem_of_getElem? (i := 3) rfl)) (hw _ (List.mem_of_getElem? (i := 12) rfl)) hy_3 rfl (by rw [hml]; rfl) [] (lenOf pd_2 rfl) rfl 0 (by show 2 * 0 + _ ≤ _; exact Nat.le_of_eq rfl) (hb hby at_316) (by decide) (by decide) (by decide) (by decide) (fun r28 T28 h28 X28 q28 => ?_)
  obtain ⟨rfl, qh28⟩ := q28
  rw [qh28] at X28
  show G T28 (mkF m 319 #[.val (.long q1), .second, .val (.int p2), .val (.int p3), .val (.int p4), .val (.long vv), .second, .val (.int ap), .val (.int ff), .val (.ref b), .val (.int nn), .val (.int r)] [(.int (f3 (10 : Int32) ap nn vv ff ((encL k vv ap.toInt.toNat [ff, ff, ff, ff, ff, ff, ff, ff, ff, ff, ff, ff, ff, ff]).getD ((10 : Int32)).toNatClampNeg 0)))])
  refine hs.go (fun _ kk_ => XS.ifNo X28.here hx rfl (hb hby at_319) rfl ((if0 _ _).trans (feq (own_ok (10 : Int32) ap nn vv ff k ⟨by decide, by decide⟩ HA hk9 hnk hgk : ¬ ((f3 (10 : Int32) ap nn vv ff ((encL k vv ap.toInt.toNat [ff, ff, ff, ff, ff, ff, ff, ff, ff, ff, ff, ff, ff, ff]).getD ((10 : Int32)).toNatClampNeg 0)) = (0 : Int32)))).1) kk_) ?_
  show G T28 (mkF m 322 #[.val (.long q1), .second, .val (.int p2), .val (.int p3), .val (.int p4), .val (.long vv), .second, .val (.int ap), .val (.int ff), .val (.ref b), .val (.int nn), .val (.int r)] [])
  refine hs.go (fun _ kk_ => XS.aload X28.here hx rfl (hb hby at_322) rfl rfl kk_) ?_
  show G T28 (mkF m 324 #[.val (.long q1), .second, .val (.int p2), .val (.int p3), .val (.int p4), .val (.long vv), .second, .val (.int ap), .val (.int ff), .val (.ref b), .val (.int nn), .val (.int r)] [(.ref b)])
  refine hs.go (fun _ kk_ => XS.bipush X28.here hx rfl (hb hby at_324) kk_) ?_
  show G T28 (mkF m 326 #[.val (.long q1), .second, .val (.int p2), .val (.int p3), .val (.int p4), .val (.long vv), .second, .val (.int ap), .val (.int ff), .val (.ref b), .val (.int nn), .val (.int r)] [(.int (11 : Int32)), (.ref b)])
  refine hs.go (fun _ kk_ => XS.iload X28.here hx rfl (hb hby at_326) rfl  kk_) ?_
  show G T28 (mkF m 328 #[.val (.long q1), .second, .val (.int p2), .val (.int p3), .val (.int p4), .val (.long vv), .second, .val (.int ap), .val (.int ff), .val (.ref b), .val (.int nn), .val (.int r)] [(.int ap), (.int (11 : Int32)), (.ref b)])
  refine hs.go (fun _ kk_ => XS.iload X28.here hx rfl (hb hby at_328) rfl  kk_) ?_
  show G T28 (mkF m 330 #[.val (.long q1), .second, .val (.int p2), .val (.int p3), .val (.int p4), .val (.long vv), .second, .val (.int ap), .val (.int ff), .val (.ref b), .val (.int nn), .val (.int r)] [(.int nn), (.int ap), (.int (11 : Int32)), (.ref b)])
  refine hs.go (fun _ kk_ => XS.lload X28.here hx rfl (hb hby at_330) rfl  kk_) ?_
  show G T28 (mkF m 332 #[.val (.long q1), .second, .val (.int p2), .val (.int p3), .val (.int p4), .val (.long vv), .second, .val (.int ap), .val (.int ff), .val (.ref b), .val (.int nn), .val (.int r)] [(.long vv), (.int nn), (.int ap), (.int (11 : Int32)), (.ref b)])
  refine hs.go (fun _ kk_ => XS.iload X28.here hx rfl (hb hby at_332) rfl  kk_) ?_
  show G T28 (mkF m 334 #[.val (.long q1), .second, .val (.int p2), .val (.int p3), .val (.int p4), .val (.long vv), .second, .val (.int ap), .val (.int ff), .val (.ref b), .val (.int nn), .val (.int r)] [(.int ff), (.long vv), (.int nn), (.int ap), (.int (11 : Int32)), (.ref b)])
  refine rCallS hs X28 hx hZ (as' := [(.ref b), (.int (11 : Int32)), (.int ap), (.int nn), (.long vv), (.int ff)]) (rm3 l Z a0 hw [] b (11 : Int32) ap nn vv ff (encL k vv ap.toInt.toNat [ff, ff, ff, ff, ff, ff, ff, ff, ff, ff, ff, ff, ff, ff]) k1 h17 n0 Z0 V_b ⟨by decide, by decide⟩) hown (hw _ (List.mem_of_getElem? (i := 10) rfl)) (hw _ (List.mem_of_getElem? (i := 11) rfl)) (hw _ (List.mem_of_getElem? (i := 3) rfl)) (hw _ (List.mem_of_getElem? (i := 12) rfl)) hy_3 rfl (by rw [hml]; rfl) [] (lenOf pd_2 rfl) rfl 0 (by show 2 * 0 + _ ≤ _; exact Nat.le_of_eq rfl) (hb hby at_334) (by decide) (by decide) (by decide) (by decide) (fun r29 T29 h29 X29 q29 => ?_)
  obtain ⟨rfl, qh29⟩ := q29
  rw [qh29] at X29
  show G T29 (mkF m 337 #[.val (.long q1), .second, .val (.int p2), .val (.int p3), .val (.int p4), .val (.long vv), .second, .val (.int ap), .val (.int ff), .val (.ref b), .val (.int nn), .val (.int r)] [(.int (f3 (11 : Int32) ap nn vv ff ((encL k vv ap.toInt.toNat [ff, ff, ff, ff, ff, ff, ff, ff, ff, ff, ff, ff, ff, ff]).getD ((11 : Int32)).toNatClampNeg 0)))])
  refine hs.go (fun _ kk_ => XS.ifNo X29.here hx rfl (hb hby at_337) rfl ((if0 _ _).trans (feq (own_ok (11 : Int32) ap nn vv ff k ⟨by decide, by decide⟩ HA hk9 hnk hgk : ¬ ((f3 (11 : Int32) ap nn vv ff ((encL k vv ap.toInt.toNat [ff, ff, ff, ff, ff, ff, ff, ff, ff, ff, ff, ff, ff, ff]).getD ((11 : Int32)).toNatClampNeg 0)) = (0 : Int32)))).1) kk_) ?_
  show G T29 (mkF m 340 #[.val (.long q1), .second, .val (.int p2), .val (.int p3), .val (.int p4), .val (.long vv), .second, .val (.int ap), .val (.int ff), .val (.ref b), .val (.int nn), .val (.int r)] [])
  refine hs.go (fun _ kk_ => XS.aload X29.here hx rfl (hb hby at_340) rfl rfl kk_) ?_
  show G T29 (mkF m 342 #[.val (.long q1), .second, .val (.int p2), .val (.int p3), .val (.int p4), .val (.long vv), .second, .val (.int ap), .val (.int ff), .val (.ref b), .val (.int nn), .val (.int r)] [(.ref b)])
  refine hs.go (fun _ kk_ => XS.bipush X29.here hx rfl (hb hby at_342) kk_) ?_
  show G T29 (mkF m 344 #[.val (.long q1), .second, .val (.int p2), .val (.int p3), .val (.int p4), .val (.long vv), .second, .val (.int ap), .val (.int ff), .val (.ref b), .val (.int nn), .val (.int r)] [(.int (12 : Int32)), (.ref b)])
  refine hs.go (fun _ kk_ => XS.iload X29.here hx rfl (hb hby at_344) rfl  kk_) ?_
  show G T29 (mkF m 346 #[.val (.long q1), .second, .val (.int p2), .val (.int p3), .val (.int p4), .val (.long vv), .second, .val (.int ap), .val (.int ff), .val (.ref b), .val (.int nn), .val (.int r)] [(.int ap), (.int (12 : Int32)), (.ref b)])
  refine hs.go (fun _ kk_ => XS.iload X29.here hx rfl (hb hby at_346) rfl  kk_) ?_
  show G T29 (mkF m 348 #[.val (.long q1), .second, .val (.int p2), .val (.int p3), .val (.int p4), .val (.long vv), .second, .val (.int ap), .val (.int ff), .val (.ref b), .val (.int nn), .val (.int r)] [(.int nn), (.int ap), (.int (12 : Int32)), (.ref b)])
  refine hs.go (fun _ kk_ => XS.lload X29.here hx rfl (hb hby at_348) rfl  kk_) ?_
  show G T29 (mkF m 350 #[.val (.long q1), .second, .val (.int p2), .val (.int p3), .val (.int p4), .val (.long vv), .second, .val (.int ap), .val (.int ff), .val (.ref b), .val (.int nn), .val (.int r)] [(.long vv), (.int nn), (.int ap), (.int (12 : Int32)), (.ref b)])
  refine hs.go (fun _ kk_ => XS.iload X29.here hx rfl (hb hby at_350) rfl  kk_) ?_
  show G T29 (mkF m 352 #[.val (.long q1), .second, .val (.int p2), .val (.int p3), .val (.int p4), .val (.long vv), .second, .val (.int ap), .val (.int ff), .val (.ref b), .val (.int nn), .val (.int r)] [(.int ff), (.long vv), (.int nn), (.int ap), (.int (12 : Int32)), (.ref b)])
  refine rCallS hs X29 hx hZ (as' := [(.ref b), (.int (12 : Int32)), (.int ap), (.int nn), (.long vv), (.int ff)]) (rm3 l Z a0 hw [] b (12 : Int32) ap nn vv ff (encL k vv ap.toInt.toNat [ff, ff, ff, ff, ff, ff, ff, ff, ff, ff, ff, ff, ff, ff]) k1 h17 n0 Z0 V_b ⟨by decide, by decide⟩) hown (hw _ (List.mem_of_getElem? (i := 10) rfl)) (hw _ (List.mem_of_getElem? (i := 11) rfl)) (hw _ (List.mem_of_getElem? (i := 3) rfl)) (hw _ (List.mem_of_getElem? (i := 12) rfl)) hy_3 rfl (by rw [hml]; rfl) [] (lenOf pd_2 rfl) rfl 0 (by show 2 * 0 + _ ≤ _; exact Nat.le_of_eq rfl) (hb hby at_352) (by decide) (by decide) (by decide) (by decide) (fun r30 T30 h30 X30 q30 => ?_)
  obtain ⟨rfl, qh30⟩ := q30
  rw [qh30] at X30
  show G T30 (mkF m 355 #[.val (.long q1), .second, .val (.int p2), .val (.int p3), .val (.int p4), .val (.long vv), .second, .val (.int ap), .val (.int ff), .val (.ref b), .val (.int nn), .val (.int r)] [(.int (f3 (12 : Int32) ap nn vv ff ((encL k vv ap.toInt.toNat [ff, ff, ff, ff, ff, ff, ff, ff, ff, ff, ff, ff, ff, ff]).getD ((12 : Int32)).toNatClampNeg 0)))])
  refine hs.go (fun _ kk_ => XS.ifNo X30.here hx rfl (hb hby at_355) rfl ((if0 _ _).trans (feq (own_ok (12 : Int32) ap nn vv ff k ⟨by decide, by decide⟩ HA hk9 hnk hgk : ¬ ((f3 (12 : Int32) ap nn vv ff ((encL k vv ap.toInt.toNat [ff, ff, ff, ff, ff, ff, ff, ff, ff, ff, ff, ff, ff, ff]).getD ((12 : Int32)).toNatClampNeg 0)) = (0 : Int32)))).1) kk_) ?_
  show G T30 (mkF m 358 #[.val (.long q1), .second, .val (.int p2), .val (.int p3), .val (.int p4), .val (.long vv), .second, .val (.int ap), .val (.int ff), .val (.ref b), .val (.int nn), .val (.int r)] [])
  refine hs.go (fun _ kk_ => XS.aload X30.here hx rfl (hb hby at_358) rfl rfl kk_) ?_
  show G T30 (mkF m 360 #[.val (.long q1), .second, .val (.int p2), .val (.int p3), .val (.int p4), .val (.long vv), .second, .val (.int ap), .val (.int ff), .val (.ref b), .val (.int nn), .val (.int r)] [(.ref b)])
  refine hs.go (fun _ kk_ => XS.bipush X30.here hx rfl (hb hby at_360) kk_) ?_
  show G T30 (mkF m 362 #[.val (.long q1), .second, .val (.int p2), .val (.int p3), .val (.int p4), .val (.long vv), .second, .val (.int ap), .val (.int ff), .val (.ref b), .val (.int nn), .val (.int r)] [(.int (13 : Int32)), (.ref b)])
  refine hs.go (fun _ kk_ => XS.iload X30.here hx rfl (hb hby at_362) rfl  kk_) ?_
  show G T30 (mkF m 364 #[.val (.long q1), .second, .val (.int p2), .val (.int p3), .val (.int p4), .val (.long vv), .second, .val (.int ap), .val (.int ff), .val (.ref b), .val (.int nn), .val (.int r)] [(.int ap), (.int (13 : Int32)), (.ref b)])
  refine hs.go (fun _ kk_ => XS.iload X30.here hx rfl (hb hby at_364) rfl  kk_) ?_
  show G T30 (mkF m 366 #[.val (.long q1), .second, .val (.int p2), .val (.int p3), .val (.int p4), .val (.long vv), .second, .val (.int ap), .val (.int ff), .val (.ref b), .val (.int nn), .val (.int r)] [(.int nn), (.int ap), (.int (13 : Int32)), (.ref b)])
  refine hs.go (fun _ kk_ => XS.lload X30.here hx rfl (hb hby at_366) rfl  kk_) ?_
  show G T30 (mkF m 368 #[.val (.long q1), .second, .val (.int p2), .val (.int p3), .val (.int p4), .val (.long vv), .second, .val (.int ap), .val (.int ff), .val (.ref b), .val (.int nn), .val (.int r)] [(.long vv), (.int nn), (.int ap), (.int (13 : Int32)), (.ref b)])
  refine hs.go (fun _ kk_ => XS.iload X30.here hx rfl (hb hby at_368) rfl  kk_) ?_
  show G T30 (mkF m 370 #[.val (.long q1), .second, .val (.int p2), .val (.int p3), .val (.int p4), .val (.long vv), .second, .val (.int ap), .val (.int ff), .val (.ref b), .val (.int nn), .val (.int r)] [(.int ff), (.long vv), (.int nn), (.int ap), (.int (13 : Int32)), (.ref b)])
  refine rCallS hs X30 hx hZ (as' := [(.ref b), (.int (13 : Int32)), (.int ap), (.int nn), (.long vv), (.int ff)]) (rm3 l Z a0 hw [] b (13 : Int32) ap nn vv ff (encL k vv ap.toInt.toNat [ff, ff, ff, ff, ff, ff, ff, ff, ff, ff, ff, ff, ff, ff]) k1 h17 n0 Z0 V_b ⟨by decide, by decide⟩) hown (hw _ (List.mem_of_getElem? (i := 10) rfl)) (hw _ (List.mem_of_getElem? (i := 11) rfl)) (hw _ (List.mem_of_getElem? (i := 3) rfl)) (hw _ (List.mem_of_getElem? (i := 12) rfl)) hy_3 rfl (by rw [hml]; rfl) [] (lenOf pd_2 rfl) rfl 0 (by show 2 * 0 + _ ≤ _; exact Nat.le_of_eq rfl) (hb hby at_370) (by decide) (by decide) (by decide) (by decide) (fun r31 T31 h31 X31 q31 => ?_)
  obtain ⟨rfl, qh31⟩ := q31
  rw [qh31] at X31
  show G T31 (mkF m 373 #[.val (.long q1), .second, .val (.int p2), .val (.int p3), .val (.int p4), .val (.long vv), .second, .val (.int ap), .val (.int ff), .val (.ref b), .val (.int nn), .val (.int r)] [(.int (f3 (13 : Int32) ap nn vv ff ((encL k vv ap.toInt.toNat [ff, ff, ff, ff, ff, ff, ff, ff, ff, ff, ff, ff, ff, ff]).getD ((13 : Int32)).toNatClampNeg 0)))])
  refine hs.go (fun _ kk_ => XS.ifNo X31.here hx rfl (hb hby at_373) rfl ((if0 _ _).trans (feq (own_ok (13 : Int32) ap nn vv ff k ⟨by decide, by decide⟩ HA hk9 hnk hgk : ¬ ((f3 (13 : Int32) ap nn vv ff ((encL k vv ap.toInt.toNat [ff, ff, ff, ff, ff, ff, ff, ff, ff, ff, ff, ff, ff, ff]).getD ((13 : Int32)).toNatClampNeg 0)) = (0 : Int32)))).1) kk_) ?_
  show G T31 (mkF m 376 #[.val (.long q1), .second, .val (.int p2), .val (.int p3), .val (.int p4), .val (.long vv), .second, .val (.int ap), .val (.int ff), .val (.ref b), .val (.int nn), .val (.int r)] [])
  refine hs.go (fun _ kk_ => XS.iconst X31.here hx rfl (hb hby at_376) kk_) ?_
  show G T31 (mkF m 377 #[.val (.long q1), .second, .val (.int p2), .val (.int p3), .val (.int p4), .val (.long vv), .second, .val (.int ap), .val (.int ff), .val (.ref b), .val (.int nn), .val (.int r)] [(.int (1 : Int32))])
  refine hs.go (fun _ kk_ => XS.goto X31.here hx rfl (pc0 := 377) (pc' := 381) rfl (hb hby at_377) (by decide) (by decide) kk_) ?_
  show G T31 (mkF m 381 #[.val (.long q1), .second, .val (.int p2), .val (.int p3), .val (.int p4), .val (.long vv), .second, .val (.int ap), .val (.int ff), .val (.ref b), .val (.int nn), .val (.int r)] [(.int (1 : Int32))])
  exact rRetN fin X31 hx (by decide) (by decide) hret (by simp) (hb hby at_381) (z' := (1 : Int32)) (by decide) rfl
set_option maxRecDepth 65536 in
set_option maxHeartbeats 40000000 in
theorem comes_1 {Post : Tables → Env → Array Value → State → Outcome → State → Prop} (hpost : ∀ tb e args s v u, (limb_1_1.after args s (.returned v) u = true ∧ limb_1_2.after args s (.returned v) u = true ∧ True) → FrameEnd s (.returned v) u (Jvm.fieldLocs frame_1_writes args s ++ Jvm.arrayLocs frame_1_arrays args s ++ Jvm.staticLocs frame_1_statics s) 16 128 → Post tb e args s (.returned v) u) :
    ArmFor flags0 classFile x code maxLocals ret World_1 tables_1 room_1 Calls_1 rest_1 Pre_1 Post := by
  intro l hfl _ _ p e ha hc hk s m args below hf hA hF happ hP
  obtain ⟨hcalls, hrest, hpre⟩ := hP
  obtain ⟨-, -, -, hnamed, -, -, -, hat⟩ := (Spec.applies_iff hf).mp happ
  obtain ⟨hg, hn⟩ := and_e (Cond.before_iff.mp (show (Jvm.Cond.and given_1 narrow_1).before args s = true from hpre))
  obtain ⟨hcnt, hg0⟩ := and_e hg
  obtain ⟨t0, hg1⟩ := and_e hg0
  obtain ⟨t1, hg2⟩ := and_e hg1
  obtain ⟨t2, hg3⟩ := and_e hg2
  have t3 := hg3
  obtain ⟨w0, w1, w2, w3, rfl⟩ : ∃ w0 w1 w2 w3 : Value, args = #[w0, w1, w2, w3] := by
    have hs : args.size = 4 := by simpa [Cond.value, given_1] using hcnt
    obtain ⟨L⟩ := args
    match L, hs with
    | [w0, w1, w2, w3], _ => exact ⟨w0, w1, w2, w3, rfl⟩
  have hw := fun d (hd : d ∈ tables_1) => atoms_spec (ws := Jvm.Cond.code x code maxLocals ret :: tables_1) hat d (List.mem_cons_of_mem _ hd)
  have hfit : Fit s := fun {y c} hc i hi => by
    obtain ⟨ha, rfl⟩ := Array.getElem?_eq_some_iff.mp hc
    have q := List.all_eq_true.mp ((Array.all_eq_true_iff_forall_mem.mp hF) _ (Array.getElem_mem ha)) i (List.mem_range.mpr hi)
    simpa [Array.getElem?_eq_getElem hi] using q
  obtain ⟨i0, ei0⟩ := isL_v t0
  obtain rfl : w0 = (.long i0) := Option.some.inj ei0
  obtain ⟨i1, ei1⟩ := is_v t1
  obtain rfl : w1 = (.int i1) := Option.some.inj ei1
  obtain ⟨i2, ei2⟩ := is_v t2
  obtain rfl : w2 = (.int i2) := Option.some.inj ei2
  obtain ⟨i3, ei3⟩ := is_v t3
  obtain rfl : w3 = (.int i3) := Option.some.inj ei3
  obtain ⟨n, o, h1, h2, h3, _, L, rfl, ⟨rfl, N⟩, hq⟩ := rm0 l s _ hw tables_1 i0 i1 i2 i3  s.heap s.heap.size (Nat.le_refl _)  p e ha hc hk s m _ below hf ((Spec.applies_iff_loose hf).mp happ).1 ⟨rfl, State.Warmed39.refl s, rfl⟩ trivial
  refine ⟨n, _, h1, h2, h3, hpost _ _ _ _ _ _ ⟨Cond.after_iff.mpr rfl, Cond.after_iff.mpr (eq_i res_at (Term.int_eval (1)) rfl), trivial⟩ ⟨hq.1, hq.2.1, (hq.2.2.sift fun y hy => Or.inr (N y hy)).mono (by decide) (by decide)⟩⟩
theorem main_1_1 : Claimed_1_1 := comes_1 fun _ _ _ _ _ _ h hF => ⟨h.1, hF⟩
theorem main_1_2 : Claimed_1_2 := comes_1 fun _ _ _ _ _ _ h hF => ⟨h.2.1, hF⟩
end Jvm.Pilot.@@N@@
namespace Jvm.Pilot.@@N@@
open Jvm Jvm.ClassFile Sem Op Lib Jvm.Free Jvm.Stand Jvm.Pilot.@@N@@.Jvm.D
/-! MADE BY PROGRAM (witnessworld.py) out of the Statement's table words and the real class files: 9 classes; the members and pool entries that the words name. The judged class is class 1, her method 3. -/
namespace start1
open Jvm.ClassFile
def u (s : String) : CpInfo := .utf8 (stringToUtf16 s)
/-- a pool by its gaps: so many unusable entries, then the entry; so many at the end -/
def gap : Nat → List CpInfo → List CpInfo
  | 0, r => r
  | n + 1, r => .unusable :: gap n r
def poolList (es : List (Nat × CpInfo)) (last : Nat) : List CpInfo := es.foldr (fun e r => gap e.1 (e.2 :: r)) (gap last [])
def pool (es : List (Nat × CpInfo)) (last : Nat) : Array CpInfo := ⟨poolList es last⟩
def fileOf (pool : Array CpInfo) (this : Nat) (attrs : Array Attribute := #[]) (ms : Array MethodInfo := #[]) (fl : Nat := 33) (sup : Nat := 0) (ifs : Array Nat := #[]) (fds : Array FieldInfo := #[]) : ClassFile where
  minorVersion := 0
  majorVersion := 65
  constantPool := pool
  accessFlags := fl
  thisClass := this
  superClass := sup
  interfaces := ifs
  fields := fds
  methods := ms
  attributes := attrs
def plain (name : String) (sup : Option ClassId) : Class where
  name := name
  kind := .ordinary
  loader := none
  accessFlags := 33
  super := sup
  interfaces := #[]
  cf := none
  fields := #[]
  methods := #[]
  instanceTypes := #[]
  staticTypes := #[]
  resolved := #[]
  callSites := []
  init := .initialized
  statics := none
  mirror := none

def pool0 : Array CpInfo := pool [(5, u "<init>"), (0, u "()V"), (1, .class_ 10), (1, u "java/lang/Object")] 113

def k0m0 : Method := { name := "<init>", desc := "()V", sig := { parameters := [], returnType := none }, accessFlags := 1, code := none }
/-- java/lang/Object -/
def k0 : Class := { plain "java/lang/Object" none with
  accessFlags := 33
  interfaces := #[]
  cf := some (fileOf pool0 8 #[] #[{ accessFlags := 1, nameIndex := 5, descriptorIndex := 6, attributes := #[] }] 33 0 #[] #[])
  fields := #[]
  methods := #[k0m0]
  instanceTypes := #[]
  staticTypes := #[]
  resolved := Array.replicate 124 none
  statics := none }

def pool1 : Array CpInfo := pool [(2, .class_ 4), (1, u "java/lang/Object"), (0, u "<init>"), (0, u "()V"), (0, .long 127), (1, .methodref 10 11), (0, .class_ 12), (0, .nameAndType 13 14), (0, u "com/example/ranked_odds/rankedodds/index/IndexFormatEncodeNumberPinLaw"), (0, u "count"), (0, u "(J)I"), (0, .methodref 16 17), (0, .class_ 18), (0, .nameAndType 19 20), (0, u "com/example/ranked_odds/rankedodds/index/IndexFormat"), (0, u "encodeNumber"), (0, u "(J[BI)I"), (0, .methodref 10 22), (0, .nameAndType 23 24), (0, u "ok"), (0, u "([BIIIJB)Z"), (3, u "law"), (0, u "(JIII)Z")] 4

def k1m0 : Method := { name := "<init>", desc := "()V", sig := { parameters := [], returnType := none }, accessFlags := 2, code := none }
def k1c1 : Code := { maxStack := 4, maxLocals := 2, code := method_2_code, exceptionTable := #[], attributes := #[] }
def k1m1 : Method := { name := "count", desc := "(J)I", sig := { parameters := [.long], returnType := some .int }, accessFlags := 10, code := some k1c1 }
def k1c2 : Code := { maxStack := 4, maxLocals := 10, code := method_3_code, exceptionTable := #[], attributes := #[] }
def k1m2 : Method := { name := "ok", desc := "([BIIIJB)Z", sig := { parameters := [(.array .byte), .int, .int, .int, .long, .byte], returnType := some .boolean }, accessFlags := 10, code := some k1c2 }
def k1c3 : Code := { maxStack := 7, maxLocals := 12, code := code, exceptionTable := #[], attributes := #[] }
def k1m3 : Method := { name := "law", desc := "(JIII)Z", sig := { parameters := [.long, .int, .int, .int], returnType := some .boolean }, accessFlags := 9, code := some k1c3 }
/-- com/example/ranked_odds/rankedodds/index/IndexFormatEncodeNumberPinLaw -/
def k1 : Class := { plain "com/example/ranked_odds/rankedodds/index/IndexFormatEncodeNumberPinLaw" (some 0) with
  accessFlags := 49
  interfaces := #[]
  cf := some (fileOf pool1 10 #[] #[{ accessFlags := 2, nameIndex := 5, descriptorIndex := 6, attributes := #[] }, { accessFlags := 10, nameIndex := 13, descriptorIndex := 14, attributes := #[] }, { accessFlags := 10, nameIndex := 23, descriptorIndex := 24, attributes := #[] }, { accessFlags := 9, nameIndex := 28, descriptorIndex := 29, attributes := #[] }] 49 2 #[] #[])
  fields := #[]
  methods := #[k1m0, k1m1, k1m2, k1m3]
  instanceTypes := #[]
  staticTypes := #[]
  resolved := Array.replicate 34 none
  statics := none }

def pool2 : Array CpInfo := pool [(2, .class_ 4), (1, u "java/lang/Object"), (0, u "<init>"), (0, u "()V"), (1, .class_ 10), (1, u "com/example/ranked_odds/rankedodds/index/IndexFormat"), (0, u "MAGIC"), (0, u "[B"), (142, u "encodeNumber"), (0, u "(J[BI)I"), (3, .long 18446744073709551488), (1, .long 127), (1, .long 128), (41, u "NO_BYTES"), (71, u "FILE_NAME"), (0, u "Ljava/lang/String;"), (3, u "VERSION"), (0, u "I"), (1, u "MAX_NUMBER_BYTES"), (1, u "MAX_DOCNO_DIGITS"), (1, u "MAX_DOCNO_NUMBER"), (0, u "J"), (0, u "INDEX_AGAIN")] 50

def k2m0 : Method := { name := "<init>", desc := "()V", sig := { parameters := [], returnType := none }, accessFlags := 2, code := none }
def k2c1 : Code := { maxStack := 6, maxLocals := 7, code := prog_18_method_8_code, exceptionTable := #[], attributes := #[] }
def k2m1 : Method := { name := "encodeNumber", desc := "(J[BI)I", sig := { parameters := [.long, (.array .byte), .int], returnType := some .int }, accessFlags := 8, code := some k2c1 }
/-- com/example/ranked_odds/rankedodds/index/IndexFormat -/
def k2 : Class := { plain "com/example/ranked_odds/rankedodds/index/IndexFormat" (some 0) with
  accessFlags := 32
  interfaces := #[]
  cf := some (fileOf pool2 8 #[] #[{ accessFlags := 2, nameIndex := 5, descriptorIndex := 6, attributes := #[] }, { accessFlags := 8, nameIndex := 155, descriptorIndex := 156, attributes := #[] }] 32 2 #[] #[{ accessFlags := 24, nameIndex := 278, descriptorIndex := 279, attributes := #[] }, { accessFlags := 24, nameIndex := 283, descriptorIndex := 284, attributes := #[] }, { accessFlags := 24, nameIndex := 286, descriptorIndex := 284, attributes := #[] }, { accessFlags := 24, nameIndex := 206, descriptorIndex := 12, attributes := #[] }, { accessFlags := 26, nameIndex := 11, descriptorIndex := 12, attributes := #[] }, { accessFlags := 26, nameIndex := 288, descriptorIndex := 284, attributes := #[] }, { accessFlags := 26, nameIndex := 290, descriptorIndex := 291, attributes := #[] }, { accessFlags := 26, nameIndex := 292, descriptorIndex := 279, attributes := #[] }])
  fields := #[{ name := "FILE_NAME", type := (.object "java/lang/String"), accessFlags := 24, slot := 0, constantValue := 0 }, { name := "VERSION", type := .int, accessFlags := 24, slot := 1, constantValue := 0 }, { name := "MAX_NUMBER_BYTES", type := .int, accessFlags := 24, slot := 2, constantValue := 0 }, { name := "NO_BYTES", type := (.array .byte), accessFlags := 24, slot := 3, constantValue := 0 }, { name := "MAGIC", type := (.array .byte), accessFlags := 26, slot := 4, constantValue := 0 }, { name := "MAX_DOCNO_DIGITS", type := .int, accessFlags := 26, slot := 5, constantValue := 0 }, { name := "MAX_DOCNO_NUMBER", type := .long, accessFlags := 26, slot := 6, constantValue := 0 }, { name := "INDEX_AGAIN", type := (.object "java/lang/String"), accessFlags := 26, slot := 7, constantValue := 0 }]
  methods := #[k2m0, k2m1]
  instanceTypes := #[]
  staticTypes := #[(.object "java/lang/String"), .int, .int, (.array .byte), (.array .byte), .int, .long, (.object "java/lang/String")]
  resolved := Array.replicate 343 none
  statics := none }

def pool3 : Array CpInfo := pool [(1, u "java/lang/Cloneable"), (0, .class_ 1), (0, u "java/lang/Object"), (0, .class_ 3)] 3

/-- java/lang/Cloneable -/
def k3 : Class := { plain "java/lang/Cloneable" (some 0) with
  accessFlags := 1537
  interfaces := #[]
  cf := some (fileOf pool3 2 #[] #[] 1537 4 #[] #[])
  fields := #[]
  methods := #[]
  instanceTypes := #[]
  staticTypes := #[]
  resolved := Array.replicate 8 none
  statics := none }

def pool4 : Array CpInfo := pool [(1, u "java/io/Serializable"), (0, .class_ 1), (0, u "java/lang/Object"), (0, .class_ 3)] 3

/-- java/io/Serializable -/
def k4 : Class := { plain "java/io/Serializable" (some 0) with
  accessFlags := 1537
  interfaces := #[]
  cf := some (fileOf pool4 2 #[] #[] 1537 4 #[] #[])
  fields := #[]
  methods := #[]
  instanceTypes := #[]
  staticTypes := #[]
  resolved := Array.replicate 8 none
  statics := none }

/-- the primitive byte -/
def k5 : Class := { plain "byte" none with kind := .primitive 'B', accessFlags := 0x411 }
/-- [B -/
def k6 : Class := { plain "[B" (some 0) with kind := .array 5 .byte, interfaces := #[3, 4], accessFlags := 1041 }

/-- the primitive int -/
def k7 : Class := { plain "int" none with kind := .primitive 'I', accessFlags := 0x411 }
/-- [I -/
def k8 : Class := { plain "[I" (some 0) with kind := .array 7 .int, interfaces := #[3, 4], accessFlags := 1041 }

def heap : Heap := #[]
def classes : Array Class := #[k0, k1, k2, k3, k4, k5, k6, k7, k8]
def interned : List (Array UInt16 × Addr) := []
def slotsUsed : Nat := 0
def theMethod : MethodId := ⟨1, 3⟩
def args0 : Array Value := #[.long 7, .int 5, .int 5, .int 5]
def aboutOver (below : List Frame) : State where
  vm := { classes := classes, interned := interned.toArray }
  heap := heap
  slotsUsed := slotsUsed
  threads := #[{ frames := .invoking theMethod args0 :: below }]
def below0 : List Frame := [.native { method := ⟨0, 0⟩, args := #[] }]
def about1 : State := aboutOver below0
def p0 : Program := .bare "" "" ""
def e0 : Env := launch0.env 0 0 0
theorem w_frames : about1.frames = Frame.invoking theMethod args0 :: below0 := rfl
set_option maxRecDepth 65536 in
theorem w_args : argsFit about1.vm theMethod args0 = true := by decide +kernel
set_option maxRecDepth 65536 in
theorem w_heap : heapFits about1 = true := by decide +kernel
set_option maxRecDepth 65536 in
theorem w_runnable : about1.curStatus? = some .runnable := by decide +kernel
set_option maxRecDepth 65536 in
theorem w_alone : about1.alone = true := by decide +kernel
set_option maxRecDepth 65536 in
theorem w_named : about1.methodNamed? x = some theMethod := by decide +kernel
set_option maxRecDepth 65536 in
theorem w_hears : about1.hears theMethod below0 = true := by decide +kernel
set_option maxRecDepth 65536 in
theorem w_ripe : about1.ripe theMethod args0 below0 = true := by decide +kernel
theorem w_running : about1.status = .running := rfl
set_option maxRecDepth 65536 in
theorem w_room : about1.hasRoom e0.platform room_1 = true :=
  launch0.hasRoom_least _ room_1 (by decide +kernel) (by decide +kernel) (by decide +kernel) (by decide +kernel) (by decide +kernel) (by decide +kernel)
theorem allAtoms_all (ts : List Jvm.Cond) (a : Array Jvm.Value) (st : Jvm.State) : (allAtoms ts).before a st = ts.all (fun c => c.before a st) := by
  induction ts with
  | nil => rfl
  | cons c t ih =>
    show (Jvm.Cond.and c (allAtoms t)).before a st = _
    rw [Jvm.Cond.before_and, ih, List.all_cons]
def words1 : List Jvm.Cond := Jvm.Cond.code x code maxLocals ret :: tables_1
/-- a 'code' word, met by the world's own term for the bytes: nothing is compared byte by byte -/
theorem code_word {y : MethodName} {bytes : ByteArray} {mx : Nat} {rt : Option FieldType} {a : Array Value} {s : State} {m : MethodId} {meth : Method} {c : Code} (h1 : s.methodNamed? y = some m) (h2 : s.vm.method? m = some meth) (h3 : meth.code = some c) (h4 : c.code = bytes)
    (h5 : (c.maxLocals == mx && c.exceptionTable.isEmpty && decide (c.maxStack ≤ mostOperands) && decide (meth.sig.returnType = rt) && !meth.locks && decide (parseMethodDescriptor y.desc = some meth.sig)) = true) : (Jvm.Cond.code y bytes mx rt).before a s = true := by
  simp only [Bool.and_eq_true, beq_iff_eq, Bool.not_eq_true', decide_eq_true_eq] at h5
  obtain ⟨⟨⟨⟨⟨g1, g2⟩, g3⟩, g4⟩, g5⟩, g6⟩ := h5
  simp [Cond.before, Cond.holds, Cond.value, h1, h2, h3, h4, g1, g2, g3, g4, g5, g6]
def isCode : Jvm.Cond → Bool
  | .code _ _ _ _ => true
  | _ => false
theorem all_split {L : List Jvm.Cond} {P : Jvm.Cond → Bool} (h1 : L.all (fun c => isCode c || P c) = true) (h2 : ∀ c ∈ L.filter isCode, P c = true) : L.all P = true := by
  refine List.all_eq_true.mpr fun c hc => ?_
  have h := List.all_eq_true.mp h1 c hc
  rcases Bool.eq_false_or_eq_true (isCode c) with hi | hi
  · exact h2 c (List.mem_filter.mpr ⟨hc, hi⟩)
  · simpa [hi] using h
set_option maxRecDepth 65536 in
theorem w_c0 : (Jvm.Cond.code x code maxLocals ret).before args0 about1 = true := code_word (m := ⟨1, 3⟩) (meth := k1m3) (c := k1c3) (by decide +kernel) rfl rfl rfl (by decide +kernel)
set_option maxRecDepth 65536 in
theorem w_c1 : (Jvm.Cond.code ({ cls := "com/example/ranked_odds/rankedodds/index/IndexFormatEncodeNumberPinLaw", name := "count", desc := "(J)I" } : Jvm.MethodName) method_2_code (2 : Nat) (Option.some Jvm.ClassFile.FieldType.int)).before args0 about1 = true := code_word (m := ⟨1, 1⟩) (meth := k1m1) (c := k1c1) (by decide +kernel) rfl rfl rfl (by decide +kernel)
set_option maxRecDepth 65536 in
theorem w_c2 : (Jvm.Cond.code ({ cls := "com/example/ranked_odds/rankedodds/index/IndexFormat", name := "encodeNumber", desc := "(J[BI)I" } : Jvm.MethodName) prog_18_method_8_code (7 : Nat) (Option.some Jvm.ClassFile.FieldType.int)).before args0 about1 = true := code_word (m := ⟨2, 1⟩) (meth := k2m1) (c := k2c1) (by decide +kernel) rfl rfl rfl (by decide +kernel)
set_option maxRecDepth 65536 in
theorem w_c3 : (Jvm.Cond.code ({ cls := "com/example/ranked_odds/rankedodds/index/IndexFormatEncodeNumberPinLaw", name := "ok", desc := "([BIIIJB)Z" } : Jvm.MethodName) method_3_code (10 : Nat) (Option.some Jvm.ClassFile.FieldType.boolean)).before args0 about1 = true := code_word (m := ⟨1, 2⟩) (meth := k1m2) (c := k1c2) (by decide +kernel) rfl rfl rfl (by decide +kernel)
def codes1 : List Jvm.Cond := [Jvm.Cond.code x code maxLocals ret, Jvm.Cond.code ({ cls := "com/example/ranked_odds/rankedodds/index/IndexFormatEncodeNumberPinLaw", name := "count", desc := "(J)I" } : Jvm.MethodName) method_2_code (2 : Nat) (Option.some Jvm.ClassFile.FieldType.int), Jvm.Cond.code ({ cls := "com/example/ranked_odds/rankedodds/index/IndexFormat", name := "encodeNumber", desc := "(J[BI)I" } : Jvm.MethodName) prog_18_method_8_code (7 : Nat) (Option.some Jvm.ClassFile.FieldType.int), Jvm.Cond.code ({ cls := "com/example/ranked_odds/rankedodds/index/IndexFormatEncodeNumberPinLaw", name := "ok", desc := "([BIIIJB)Z" } : Jvm.MethodName) method_3_code (10 : Nat) (Option.some Jvm.ClassFile.FieldType.boolean)]
set_option maxRecDepth 65536 in
theorem codes_eq : words1.filter isCode = codes1 := rfl
theorem w_codes : ∀ c ∈ words1.filter isCode, c.before args0 about1 = true := by
  rw [codes_eq]
  intro c hc
  simp only [codes1, List.mem_cons, List.not_mem_nil, or_false] at hc
  rcases hc with rfl | rfl | rfl | rfl
  · exact w_c0
  · exact w_c1
  · exact w_c2
  · exact w_c3
set_option maxRecDepth 65536 in
theorem w_t1 : words1.all (fun c => isCode c || c.before args0 about1) = true := by decide +kernel
theorem w_tables : (allAtoms (Jvm.Cond.code x code maxLocals ret :: tables_1)).before args0 about1 = true := by
  rw [allAtoms_all]
  show words1.all (fun c => c.before args0 about1) = true
  refine all_split ?_ w_codes
  rw [w_t1]
set_option maxRecDepth 65536 in
theorem w_case : (Jvm.Cond.and given_1 narrow_1).before args0 about1 = true := by decide +kernel
theorem w_applies : (headSpec (Jvm.Cond.code x code maxLocals ret :: tables_1) room_1).applies x e0.platform about1 = true :=
  (Spec.applies_iff w_frames).mpr ⟨w_running, w_runnable, w_alone, w_named, w_hears, w_ripe, w_room, w_tables⟩
theorem atStart : AtStart classFile x code maxLocals ret World_1 tables_1 room_1 Calls_1 rest_1 Pre_1 launch0 p0 e0 about1 theMethod args0 below0 :=
  ⟨lists_1, trivial, launch0.admits_env _ _ _, launch0.least_env, fairChoices_fair.cas, fairChoices_fair.clock, w_frames, w_args, w_heap, w_applies, trivial, trivial, w_case⟩
end start1
theorem witness_1 : WitnessClaimed_1 := ⟨start1.p0, start1.e0, start1.about1, start1.theMethod, start1.args0, start1.below0, start1.atStart⟩
end Jvm.Pilot.@@N@@
